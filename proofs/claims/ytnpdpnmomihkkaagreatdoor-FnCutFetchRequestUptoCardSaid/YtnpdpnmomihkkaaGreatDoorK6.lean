/- messages, part 6 -/
import Derived.Test.YtnpdpnmomihkkaaGreatDoorK4
import Derived.Laws.IdiomStrings

namespace Go.Proofs.YtnpdpnmomihkkaaGreatDoor.Kx
open Go
structure Kn where
 tRS:Nat
 tSl:Nat
 tB:Nat
 tInt:Nat
 tU8:Nat
 tI8:Nat
 tI16:Nat
 tU16:Nat
 tI32:Nat
 tU32:Nat
 tI64:Nat
 tU64:Nat
 tStr:Nat
 tUuid:Nat
 tBE:Nat
 tErr:Nat
 gBE:Nat
 gErr:Nat
 fU16:Nat
 fU32:Nat
 fU64:Nat
 fUv:Nat
 fR64:Nat
def jV (K:Kn)(s n:Nat):List Oper:=[mk (some n) (.move (tm s)),mk (some (n+1)) (.nilCheck (tm n)),mk (some (n+2)) (.fieldAddr K.tRS (tm (n+1)) 0),mk (some (n+3)) (.load K.tSl (tm (n+2)))]
def BN (K:Kn)(k:Nat)(A B:GC):GC:=gb 5 6 (λn=>jV K 0 n++[bi (some (n+4)) .len [tm (n+3)] [K.tSl] K.tInt,mk (some (n+5)) (.binOp .lss K.tInt (tm (n+4)) (ki .i64 k) 0)]) A B
def sK (K:Kn)(s:Nat)(z:Value):GC:=gS [bL 3 λn=>[mk (some n) (.move (tm 0)),mk (some (n+1)) (.nilCheck (tm n)),mk (some (n+2)) (.fieldAddr K.tRS (tm (n+1)) 1),mk none (.store K.tB (tm (n+2)) (.const (.bool true)))],
 bL 3 λn=>[mk (some n) (.move (tm 0)),mk (some (n+1)) (.nilCheck (tm n)),mk (some (n+2)) (.fieldAddr K.tRS (tm (n+1)) 0),mk none (.store K.tSl (tm (n+2)) (.const (.slice none 0 0)))],co s z,cp .ret]
def uO (K:Kn)(z:Value):GC:=sK K 2 z
def Dr (K:Kn)(k:Nat):GC:=bL 8 λn=>mk (some n) (.move (tm 0))::(jV K 0 (n+1)++[mk (some (n+5)) (.slice K.tSl (tm (n+4)) (some (ki .i64 k)) none none),mk (some (n+6)) (.nilCheck (tm n)),mk (some (n+7)) (.fieldAddr K.tRS (tm (n+6)) 0),mk none (.store K.tSl (tm (n+7)) (tm (n+5)))])
def o8 (K:Kn)(l:Nat):GC:=bL 9 λn=>mk (some n) (.move (tm 0))::(jV K 0 (n+1)++[mk (some (n+5)) (.move (tm l)),mk (some (n+6)) (.slice K.tSl (tm (n+4)) (some (tm (n+5))) none none),mk (some (n+7)) (.nilCheck (tm n)),mk (some (n+8)) (.fieldAddr K.tRS (tm (n+7)) 0),mk none (.store K.tSl (tm (n+8)) (tm (n+6)))])
structure KT (P:Program)(g:G)(K:Kn):Prop where
 mixed:P.follows .mixedOrders=true
 f0:cO P K.tRS 0 K.tSl 0 false 1
 f1:cO P K.tRS 1 K.tB 1 false 1
 sl:P.underlying K.tSl=some (.slice K.tU8)
 u8:cv P K.tU8 false 1
 dU8:P.underlying K.tU8=some (.int .u8)
 dI8:cJ K.tI8=true->P.underlying K.tI8=some (.int .i8)
 dI16:P.underlying K.tI16=some (.int .i16)
 dI32:P.underlying K.tI32=some (.int .i32)
 dU32:P.underlying K.tU32=some (.int .u32)
 dInt:P.underlying K.tInt=some (.int .i64)
section
variable {P:Program} {g:G} {K:Kn} {T S R:Nat} {r:RS} {x n:Nat} {KK:Act->World->Prop} {Q:Exit->Act->World->Prop} {a:Act} {w:World}
def C2 (w:World)(T S R:Nat)(v:Value)(r:RS):Prop:=w.heap[R]?=some (.cells #[v,.bool r.bad] T (0,0))/\dj w S v r
theorem dj.len {v:Value}(h:dj w S v r):∃ base c,v=.slice base r.src.length c/\(base=none->r.src=[]/\c=0/\r.nl=true)/\r.src.length<=c/\c<=maxLen/\∀ b,base=some b->∃ o,b=⟨S,o,none⟩/\r.nl=false/\S<w.heap.size/\io w S o r.src:=by
 rcases h with⟨h1,h2,h3⟩|⟨o,c,h1,h2,h3,h4,h5,h6⟩
 ·exact⟨none,0,by rw[h1,h2];rfl,λ_=>⟨h2,rfl,h3⟩,by rw[h2];simp,by simp,λb hb=>(by cases hb)⟩
 ·exact⟨some ⟨S,o,none⟩,c,h1,λh=>(by cases h),h3,h4,λb hb=>(by cases hb;exact⟨o,rfl,h2,h5,h6⟩)⟩
theorem lf (kt:KT P g K){ops:Array Oper}{l:List Oper}{s:Nat}{v:Value}(hs:a.get s=pt R 0)(hR:C2 w T S R v r)(hn:n+4<=a.tmps.size)(h:∀ a',Pv n 0 0 n a a'->a'.get (n+3)=v->wpList P ops Q l a' w):wpList P ops Q (jV K s n++l) a w:=by
 have hc:w.cell? ⟨R,0+0,none⟩=some v:=by simp[World.cell?,hR.1]
 show wpList P ops Q (mk (some n) (.move (tm s))::mk (some (n+1)) (.nilCheck (tm n))::mk (some (n+2)) (.fieldAddr K.tRS (tm (n+1)) 0)::mk (some (n+3)) (.load K.tSl (tm (n+2)))::l) a w
 refine bv ?_
 rw[bp,hs]
 refine bY (by rw[bp,bA aa];rfl) ?_
 refine dt (by rw[bp,bA (by simp only[bq];omega)]) kt.f0 ?_
 refine cL (by rw[bp,bA (by simp only[bq];omega)]) (kt.f0.var.agg _) hc ?_
 exact h _ (((((Pv.refl _ _ _ _ _).put _ aa).put _ aa).put _ aa).put _ aa) (bA (by simp only[bq];omega))
theorem Dq (kt:KT P g K){v:Value}{k:Nat}{A B:GC}(h0:a.get 0=pt R 0)(hR:C2 w T S R v r)(hn:n+6<=a.tmps.size)
  (h:∀ a',Pv n 0 0 n a a'->if r.src.length<k then cf P (A (n+6)).1 Q a' w else cf P (B (A (n+6)).2).1 Q a' w):cf P (BN K k A B n).1 Q a w:=by
 obtain⟨base,c,hv,_⟩:=hR.2.len
 subst hv
 have key:∀ (b:Bool) (K':Act->World->Prop),b=decide ((r.src.length:Int)<(k:Int))->(∀ a',a'.eval (tm (n+5))=.bool b->Pv n 0 0 n a a'->K' a' w) ->
   wpList P (jV K 0 n++[bi (some (n+4)) .len [tm (n+3)] [K.tSl] K.tInt,mk (some (n+5)) (.binOp .lss K.tInt (tm (n+4)) (ki .i64 k) 0)]).toArray (Exit.then K' Q) (jV K 0 n++[bi (some (n+4)) .len [tm (n+3)] [K.tSl] K.tInt,mk (some (n+5)) (.binOp .lss K.tInt (tm (n+4)) (ki .i64 k) 0)]) a w:=by
  intro b K' hb hK
  refine lf kt h0 hR aa λa1 IP IY=>?_
  have IX:=IP.size
  refine gi (by rw[bp,IY]) kt.sl ?_
  refine cZ (b:=b) (p:=(r.src.length:Int)) (q:=k) (k:=.i64) (by rw[bp,bA aa]) rfl (.inr (.inr (.inl ⟨rfl,hb⟩))) (wpList_nil (hK _ (by rw[bp,bA (by simp only[bq];omega)]) ((IP.put _ aa).put _ aa)))
 by_cases IU:r.src.length<k
 ·refine eX (key true _ (by simp;omega) λa' he hp=>⟨he,?_⟩)
  have:=h a' hp
  rwa [ax IU]at this
 ·refine eK (key false _ (by simp;omega) λa' he hp=>⟨he,?_⟩)
  have:=h a' hp
  rwa [al IU]at this
theorem uM (kt:KT P g K){v z:Value}{E:Act->World->Prop}{N:Act->World->Prop}(h0:a.get 0=pt R 0)(hR:C2 w T S R v r)(_hRS:S≠R)(hn:n+6<=a.tmps.size){s:Nat}(V3:s<n)
  (h:∀ a' w',a'.defers=a.defers->a'.get s=z->ep w' T S R .fail->br (·=R) w w'->E a' w'):cf P (sK K s z n).1 (Rt N E) a w:=by
 refine cC (bt (bF (bv ?_)))
 rw[bp,h0]
 refine bY (by rw[bp,bA aa];rfl) ?_
 refine dt (by rw[bp,bA (by simp only[bq];omega)]) kt.f1 ?_
 refine cK (cur:=#[v,.bool r.bad]) (t:=T) (v:=.bool true) (vs:=[.bool true]) (by rw[bp,bA (by simp only[bq];omega)]) rfl rfl (kt.f1.var.size _) hR.1 ab (λu hu=>by simp at hu;rw[hu];rfl) (wpList_nil ?_)
 have e1:bV #[v,.bool r.bad] (0+1) [.bool true]=#[v,.bool true]:=by simp[bV]
 rw[e1]
 have IP:Pv n 0 0 n a (((a.put (some n) (pt R 0)).put (some (n+1)) (.pointer (some ⟨R,0,none⟩))).put (some (n+2)) (.pointer (some ⟨R,0+1,none⟩))):=(((Pv.refl _ _ _ _ _).put _ aa).put _ aa).put _ aa
 generalize((a.put (some n) (pt R 0)).put (some (n+1)) (.pointer (some ⟨R,0,none⟩))).put (some (n+2)) (.pointer (some ⟨R,0+1,none⟩))=a1 at IP ⊢
 have IX:=IP.size
 have MC:(w.setRow R #[v,.bool true]).heap[R]?=some (.cells #[v,.bool true] T (0,0)):=setRow_heap _ _ _ _ _ _ hR.1
 rw[show(bL 3 (λn=>[mk (some n) (.move (tm 0)),mk (some (n+1)) (.nilCheck (tm n)),mk (some (n+2)) (.fieldAddr K.tRS (tm (n+1)) 1),mk none (.store K.tB (tm (n+2)) (.const (.bool true)))]) n).2=n+3 from rfl]
 refine bt (bF (bv ?_))
 rw[bp,IP.get 0 aa (.inr ⟨by omega,by omega⟩),h0]
 refine bY (by rw[bp,bA aa];rfl) ?_
 refine dt (by rw[bp,bA (by simp only[bq];omega)]) kt.f0 ?_
 refine cK (cur:=#[v,.bool true]) (t:=T) (v:=.slice none 0 0) (vs:=[.slice none 0 0]) (by rw[bp,bA (by simp only[bq];omega)]) rfl rfl (kt.f0.var.size _) MC ab (λu hu=>by simp at hu;rw[hu];rfl) (wpList_nil ?_)
 have e2:bV #[v,.bool true] (0+0) [.slice none 0 0]=#[.slice none 0 0,.bool true]:=by simp[bV]
 rw[e2]
 refine bt (eW (x:=s) (m:=0) (k0:=0) (.inl rfl) (by simp only[bq];omega) λa2 IR Ja=>?_)
 refine bt (.ret (h a2 _ ?_ Ja ?_ ?_))
 ·rw[IR.defers];simp only[b6];exact IP.defers
 ·exact⟨.slice none 0 0,setRow_heap _ _ _ _ _ _ MC,.inl ⟨rfl,rfl,rfl⟩⟩
 ·exact(br.setRow (λk=>k=R) _ _ _ rfl).trans (br.setRow (λk=>k=R) _ _ _ rfl)
theorem wO (kt:KT P g K){v z:Value}{E:Act->World->Prop}{N:Act->World->Prop}(h0:a.get 0=pt R 0)(hR:C2 w T S R v r)(hRS:S≠R)(hn:n+6<=a.tmps.size)(V3:2<n)
  (h:∀ a' w',a'.defers=a.defers->a'.get 2=z->ep w' T S R .fail->br (·=R) w w'->E a' w'):cf P (uO K z n).1 (Rt N E) a w:=uM kt h0 hR hRS hn V3 h
def jg (v:Value)(k:Nat):Value:=
 match v with
 | .slice base n c=>.slice (if c=k then base else base.map (·.add k)) (n-k) (c-k)
 | v=>v
theorem dj.cut {v:Value}{k:Nat}(h:dj w S v r)(hk:k<=r.src.length):dj w S (jg v k) ⟨r.src.drop k,r.bad,r.nl⟩:=by
 rcases h with⟨h1,h2,h3⟩|⟨o,c,h1,h2,h3,h4,h5,h6⟩
 ·have:k=0:=by rw[h2]at hk;simpa using hk
  subst this
  refine .inl ⟨by rw[h1];rfl,by simp[h2],h3⟩
 ·subst h1
  by_cases hc:c=k
  ·refine .inr ⟨o,c-k,?_,h2,by simp;omega,by omega,h5,?_⟩
   ·simp[jg,hc]
   ·have:r.src.length=k:=by omega
    intro i x hi
    simp[this]at hi
  ·refine .inr ⟨o+k,c-k,?_,h2,by simp;omega,by omega,h5,λi x hi=>?_⟩
   ·simp[jg,hc,Addr.add_lit]
   ·have:=h6 (k+i) x (by simpa using hi)
    rwa [<- Nat.add_assoc]at this
theorem po (kt:KT P g K){ops:Array Oper}{l:List Oper}{d:Option Nat}{y lo:Operand}{v:Value}{k:Nat}(hy:a.eval y=v)(hv:dj w S v r)(Kh:a.eval lo=.int .i64 k)(hk:k<=r.src.length)
  (h:wpList P ops Q l (a.put d (jg v k)) w):wpList P ops Q (mk d (.slice K.tSl y (some lo) none none)::l) a w:=by
 refine bP ?_ h
 obtain⟨base,c,Mw,Sl,Oa,LB,hb⟩:=hv.len
 subst Mw
 have hs:=kt.u8.size w
 have Jd:k<=c:=by omega
 have JM:¬ ((k:Int)<0):=by omega
 simp[execOp,mk,hy,Kh,Instr.sliceAt,Instr.slice,run_underlying kt.sl,Instr.sliceBounds,Instr.sliceBound,asIntOf,hs,hk,jg]
theorem Ig (kt:KT P g K){v:Value}{k:Nat}(h0:a.get 0=pt R 0)(hR:C2 w T S R v r)(hk:k<=r.src.length)(hRS:S≠R)(hn:n+8<=a.tmps.size)(h0n:0<n)
  (h:∀ a',Pv n 0 0 n a a'->ep (w.setRow R #[jg v k,.bool r.bad]) T S R ⟨r.src.drop k,r.bad,r.nl⟩->KK a' (w.setRow R #[jg v k,.bool r.bad])):cf P (Dr K k n).1 (Exit.then KK Q) a w:=by
 refine bF (bv ?_)
 rw[bp,h0]
 refine lf kt (v:=v) (by rw[b8 aa];exact h0) hR (by simp only[bq];omega) λa1 IP IY=>?_
 have IX:=IP.size
 rw[bq]at IX
 have PD:a1.get n=pt R 0:=by rw[IP.get n aa (.inr ⟨by omega,by omega⟩),bA aa]
 have L7:Pv n 0 0 n a a1:=((Pv.refl n 0 0 n a).put (pt R 0) aa).trans ⟨IP.size,IP.defers,λs hs hh=>IP.get s aa (.inr ⟨by omega,by omega⟩)⟩
 refine po kt (k:=k) (by rw[bp];exact IY) hR.2 rfl hk ?_
 refine bY (by rw[bp,b8 aa,PD];rfl) ?_
 refine dt (by rw[bp,bA (by simp only[bq];omega)]) kt.f0 ?_
 obtain⟨Yn,Yl⟩:=lC (hR.2.cut hk)
 refine cK (cur:=#[v,.bool r.bad]) (t:=T) (v:=jg v k) (vs:=[jg v k]) (by rw[bp,bA (by simp only[bq];omega)]) (by rw[bp,b8 aa,b8 aa,bA aa]) (by rw[Yl]) (kt.f0.var.size _) hR.1 ab
  (λu hu=>by simp at hu;rw[hu];exact Yn) (wpList_nil ?_)
 have e1:bV #[v,.bool r.bad] (0+0) [jg v k]=#[jg v k,.bool r.bad]:=by simp[bV]
 rw[e1]
 refine h _ (((L7.put _ aa).put _ aa).put _ aa) ⟨_,setRow_heap _ _ _ _ _ _ hR.1,(hR.2.cut hk).keep (br.setRow (λk=>k=R) _ _ _ rfl) hRS⟩
end
section
variable {P:Program} {g:G} {K:Kn} {T S R:Nat} {r:RS} {x n:Nat} {KK:Act->World->Prop} {Q:Exit->Act->World->Prop} {a:Act} {w:World}
theorem m9 (I:World->Prop):∀ (l1 l2:List Oper) (a:Act) (K':Act->Prop),iR P I l1 a (λa'=>iR P I l2 a' K')->iR P I (l1++l2) a K'
 | [],_,_,_,h=>h
 | _::l1,l2,_a,K',⟨v,h1,h2⟩=>⟨v,h1,m9 I l1 l2 _ K' h2⟩
theorem iF {I:World->Prop}{d:Nat}{y:Operand}{l:List Oper}{K':Act->Prop}(h:iR P I l (a.put (some d) (a.eval y)) K'):iR P I (mk (some d) (.move y)::l) a K':=⟨_,λ_ _=>rfl,h⟩
theorem oC {I:World->Prop}{d:Nat}{y:Operand}{p:Addr}{l:List Oper}{K':Act->Prop}(hy:a.eval y=.pointer (some p))(h:iR P I l (a.put (some d) (.pointer (some p))) K'):iR P I (mk (some d) (.nilCheck y)::l) a K':=
 ⟨_,λw _=>by simp[execOp,mk,hy],h⟩
theorem wZ {I:World->Prop}{d:Nat}{y:Operand}{F TT k B O off sz:Nat}{agg:Bool}{l:List Oper}{K':Act->Prop}(hy:a.eval y=.pointer (some ⟨B,O,none⟩))(hF:cO P TT k F off agg sz)
  (h:iR P I l (a.put (some d) (.pointer (some ⟨B,O+off,none⟩))) K'):iR P I (mk (some d) (.fieldAddr TT y k)::l) a K':=by
 obtain⟨fs,f,h1,h2,h3,h4⟩:=hF.fld
 obtain⟨q,rfl⟩:∃ q,sz=q+1:=⟨sz-1,by have:=hF.pos;omega⟩
 have Jc:∀ w,(sizeOf f.type).run P w=.ok (q+1) w:=λw=>by rw[h4];exact hF.var.size w
 exact⟨_,λw _=>by simp[execOp,mk,hy,Instr.fieldAt,run_underlying h1,h2,h3,fieldPlace,Jc,Instr.sureAddr,Addr.add_lit],h⟩
theorem gT {I:World->Prop}{d:Nat}{y:Operand}{F:Nat}{p:Addr}{v:Value}{l:List Oper}{K':Act->Prop}(hy:a.eval y=.pointer (some p))(hF:∀ w,(isAgg F).run P w=.ok false w)(hv:∀ w,I w->w.cell? p=some v)
  (h:iR P I l (a.put (some d) v) K'):iR P I (mk (some d) (.load F y)::l) a K':=
 ⟨_,λw hI=>by simp[execOp,mk,hy,Instr.loadAt,Instr.sureAddr,loadVar,hF,load,hv w hI,Sem.run],h⟩
theorem jC {I:World->Prop}{d:Nat}{y z:Operand}{F E' b o m c i sz:Nat}{k:IntKind}{l:List Oper}{K':Act->Prop}(hy:a.eval y=.slice (some ⟨b,o,none⟩) m c)(hz:a.eval z=.int k i)(hi:i<m)(hF:P.underlying F=some (.slice E'))
  (hs:∀ w,(sizeOf E').run P w=.ok sz w) (h:iR P I l (a.put (some d) (.pointer (some ⟨b,o+i*sz,none⟩))) K'):iR P I (mk (some d) (.indexAddr F y z)::l) a K':=
 ⟨_,λw _=>by simp[execOp,mk,hy,hz,Instr.indexAt,asIntOf,run_underlying hF,hs,hi,Addr.add_lit],h⟩
theorem xZ {I:World->Prop}{d:Nat}{y:Operand}{A B:Nat}{k k':IntKind}{m:Int}{l:List Oper}{K':Act->Prop}(hy:a.eval y=.int k m)(hA:P.underlying A=some (.int k))(hB:P.underlying B=some (.int k'))
  (h:iR P I l (a.put (some d) (.int k' (k'.wrap m))) K'):iR P I (mk (some d) (.convert A B y)::l) a K':=
 ⟨_,λw _=>by simp[execOp,mk,hy,convert,run_underlying hA,run_underlying hB,Conv.intToInt],h⟩
theorem sU {I:World->Prop}{d:Nat}{op:BinOp}{A:Nat}{y z:Operand}{k k2:IntKind}{m m2:Int}{v:Value}{l:List Oper}{K':Act->Prop}(hy:a.eval y=.int k m)(hz:a.eval z=.int k2 m2)
  (Qf:∀ w,(binOp op A (.int k m) (.int k2 m2)).run P w=.ok v w) (h:iR P I l (a.put (some d) v) K'):iR P I (mk (some d) (.binOp op A y z 0)::l) a K':=by
 refine⟨v,λw _=>?_,h⟩
 have he:(eqGuard op A y z (.int k m) (.int k2 m2)).run P w=.ok () w:=by
  unfold eqGuard
  cases op<;>simp
 simp only[execOp,mk,hy,hz,Sem.run_bind,he,Result.andThen_ok,Qf,Sem.run_pure]
def uk (k:IntKind):Prop:=k=.u16 \/ k=.u32 \/ k=.u64
theorem iT {k:IntKind}(hk:uk k){m:Nat}(h:m<2^k.bits):k.wrap (m:Int)=m:=by
 rcases hk with rfl|rfl|rfl<;>simp[IntKind.wrap,IntKind.bits,IntKind.signed]at h ⊢<;>omega
theorem xK {k:IntKind}(hk:uk k){A:Nat}{b s:Nat}(hb:b<256)(hs:s+8<=k.bits)(w:World):(binOp .shl A (.int k (b:Int)) (.int .u64 (s:Int))).run P w=.ok (.int k ((b*2^s:Nat):Int)) w:=by
 have h1:¬ ((s:Int)<0):=by omega
 have h2:min s k.bits=s:=by omega
 have h3:b*2^s<2^k.bits:=by
  have:2^(s+8)<=2^k.bits:=Nat.pow_le_pow_right aa hs
  rw[Nat.pow_add]at this
  have h4:b*2^s<2^s*2^8:=by
   rw[Nat.mul_comm]
   exact Nat.mul_lt_mul_of_pos_left aa (Nat.two_pow_pos s)
  omega
 have h5:((b:Int)*2^s)=((b*2^s:Nat):Int):=by simp
 simp only[binOp,Op.shift,h1,ak,Int.toNat_natCast,h2,h5,iT hk h3,Sem.run_pure]
theorem AH {k:IntKind}(hk:uk k){A:Nat}{acc b s:Nat}(ha:acc<2^s)(hb:b<256)(hs:s+8<=k.bits)(w:World):(binOp .or A (.int k (acc:Int)) (.int k ((b*2^s:Nat):Int))).run P w=.ok (.int k ((b*2^s+acc:Nat):Int)) w:=by
 have hp:2^(s+8)<=2^k.bits:=Nat.pow_le_pow_right aa hs
 rw[Nat.pow_add]at hp
 have h4:b*2^s+2^s<=2^s*2^8:=by
  have:(b+1)*2^s<=256*2^s:=bn _ aa
  rw[bk,Nat.one_mul]at this
  omega
 have h3:b*2^s+acc<2^k.bits:=by omega
 have e1:BitVec.ofInt k.bits (acc:Int)=BitVec.ofNat k.bits acc:=by simp
 have e2:BitVec.ofInt k.bits ((b*2^s:Nat):Int)=BitVec.ofNat k.bits (b*2^s):=BitVec.ofInt_natCast ..
 have e3:acc ||| b*2^s=b*2^s+acc:=by
  rw[Nat.or_comm,Nat.mul_comm,<- Nat.two_pow_add_eq_or_of_lt ha]
 have e4:(BitVec.ofNat k.bits acc ||| BitVec.ofNat k.bits (b*2^s)).toNat=b*2^s+acc:=by
  rw[BitVec.toNat_or,BitVec.toNat_ofNat,BitVec.toNat_ofNat,aW aa,aW aa,e3]
 have K5:(k≠k)=False:=by simp
 simp only[binOp,K5,ak,Op.intBits,e1,e2,e4,iT hk h3,Sem.run_pure]
def Co (K:Kn)(tK n acc i s:Nat):List Oper:=[mk (some n) (.move (tm 1)),mk (some (n+1)) (.indexAddr K.tSl (tm n) (ki .i64 i)),mk (some (n+2)) (.load K.tU8 (tm (n+1))),mk (some (n+3)) (.convert K.tU8 tK (tm (n+2))),
 mk (some (n+4)) (.binOp .shl tK (tm (n+3)) (ki .u64 s) 0),mk (some (n+5)) (.binOp .or tK (tm acc) (tm (n+4)) 0)]
def nF (K:Kn)(tK k:Nat):Nat->Nat->Nat->List Oper
 | 0,_,_=>[]
 | m+1,j,n=>Co K tK n (n-1) (k-1-j) (8*j)++nF K tK k m (j+1) (n+6)
def kP (K:Kn)(tK k:Nat):List Oper:=[mk (some 8) (.move (tm 1)),mk (some 9) (.indexAddr K.tSl (tm 8) (ki .i64 ((k-1:Nat):Int))),mk (some 10) (.load K.tU8 (tm 9)),mk (some 11) (.convert K.tU8 tK (tm 10))]++nF K tK k (k-1) 1 12
def gBig (K:Kn)(tK:Nat)(kind:IntKind)(k:Nat):Code:=
 sq [rg [mk (some 2) (.box K.tBE (tm 0)),mk (some 4) (.assign (ki kind 0))],
  rg [mk (some 5) (.move (tm 1)),mk (some 6) (.indexAddr K.tSl (tm 5) (ki .i64 ((k-1:Nat):Int))),mk (some 7) (.load K.tU8 (tm 6))],
  .region 1 (kP K tK k++[mk (some 4) (.assign (tm (12+6*(k-1)-1)))]).toArray true,.ret]
theorem qK (b:UInt8)(l:Bs):ei (b::l)=b.toNat*256^l.length+ei l:=by
 have h:∀ (l:Bs) (a:Nat),l.foldl (λa b=>a*256+b.toNat) a=a*256^l.length+l.foldl (λa b=>a*256+b.toNat) 0:=by
  intro l
  induction l with
  | nil=>intro a;simp
  | cons b l ih=>
   intro a
   simp only[List.foldl_cons,List.length_cons]
   rw[ih,ih (0*256+b.toNat)]
   rw[Nat.pow_succ,bk,Nat.zero_mul,aN,Nat.mul_assoc,Nat.mul_comm 256 (256^l.length)]
   omega
 simp only[ei,List.foldl_cons]
 rw[h]
 simp
theorem rJ (l:Bs):ei l<256^l.length:=by
 induction l with
 | nil=>simp[ei]
 | cons b l ih=>
  rw[qK,List.length_cons,Nat.pow_succ]
  have:=UInt8.toNat_lt b
  have h:(b.toNat+1)*256^l.length<=256*256^l.length:=bn _ aa
  rw[bk,Nat.one_mul]at h
  omega
theorem uV (kt:KT P g K){tK k:Nat}{kind:IntKind}(Kl:uk kind)(hK:P.underlying tK=some (.int kind)){I:World->Prop}{o len c:Nat}{src:Bs}(hI:∀ w,I w->io w S o src)(IT:len=src.length)(hk:k<=src.length)(hb:8*k<=kind.bits) :
  ∀ (m j n:Nat) (a:Act) (K':Act->Prop),m+j=k->1<=j->12<=n->n+6*m<=a.tmps.size->a.get 1=.slice (some ⟨S,o,none⟩) len c->a.get (n-1)=.int kind ((ei ((src.take k).drop (k-j)):Nat):Int) ->
   (∀ a',a'.tmps.size=a.tmps.size->a'.defers=a.defers->a'.get (n+6*m-1)=.int kind ((ei (src.take k):Nat):Int)->K' a')->iR P I (nF K tK k m j n) a K'
 | 0,j,n,a,K',hm,hj,hn,hs,h1,LC,h=>by
  have:j=k:=by omega
  subst this
  exact h a rfl rfl (by simpa using LC)
 | m+1,j,n,a,K',hm,hj,hn,hs,h1,LC,h=>by
  refine m9 I _ _ a K' ?_
  have WU:k-1-j<src.length:=by omega
  obtain⟨b,KN⟩:∃ b,src[k-1-j]?=some b:=⟨src[k-1-j],by simp[WU]⟩
  have Px:=UInt8.toNat_lt b
  have Og:IntKind.wrap kind (b.toNat:Int)=b.toNat:=iT Kl (by rcases Kl with rfl|rfl|rfl<;>simp[IntKind.bits]<;>omega)
  have Mm:(src.take k).drop (k-(j+1))=b::(src.take k).drop (k-j):=by
   have e:k-(j+1)=k-1-j:=by omega
   have hl:k-1-j<(src.take k).length:=by simp;omega
   rw[e,aZ hl]
   congr 1
   ·have:=(ah.1 KN).2
    simpa using this
   ·congr 1
    omega
  have Nu:((src.take k).drop (k-j)).length=j:=by simp;omega
  have Sn:ei ((src.take k).drop (k-j))<2^(8*j):=by
   have:=rJ ((src.take k).drop (k-j))
   rw[Nu]at this
   have e:(256:Nat)^j=2^(8*j):=by rw[Nat.pow_mul]
   omega
  unfold Co
  refine iF ?_
  rw[bp,h1]
  refine jC (i:=k-1-j) (k:=.i64) (sz:=1) (by rw[bp,bA aa]) rfl aa kt.sl (λw=>kt.u8.size w) ?_
  refine gT (v:=.int .u8 (b.toNat:Int)) (by rw[bp,bA (by simp only[bq];omega)]) (λw=>kt.u8.agg w) (λw hw=>by rw[Nat.mul_one];exact hI w hw _ b KN) ?_
  refine xZ (k:=.u8) (k':=kind) (m:=(b.toNat:Int)) (by rw[bp,bA (by simp only[bq];omega)]) kt.dU8 hK ?_
  rw[Og]
  refine sU (k:=kind) (k2:=.u64) (m:=(b.toNat:Int)) (m2:=((8*j:Nat):Int)) (by rw[bp,bA (by simp only[bq];omega)]) rfl (λw=>xK Kl Px aa w) ?_
  refine sU (k:=kind) (k2:=kind) (by rw[bp,b8 aa,b8 aa,b8 aa,b8 aa,b8 aa];exact LC) (by rw[bp,bA (by simp only[bq];omega)])
   (λw=>AH Kl Sn Px aa w) ?_
  show iR P I (nF K tK k m (j+1) (n+6)) _ K'
  refine uV (c:=c) kt Kl hK hI IT hk hb m (j+1) (n+6) _ K' aa aa aa (by simp only[bq];omega) ?_ ?_ λa' Mh hd' Jn=>h a' (by rw[Mh];simp only[bq]) (by rw[hd'];simp only[b6]) (by rw[show n+6*(m+1)-1=n+6+6*m-1 by omega];exact Jn)
  ·rw[b8 aa,b8 aa,b8 aa,b8 aa,b8 aa,b8 aa];exact h1
  ·rw[show n+6-1=n+5 by omega,bA (by simp only[bq];omega),Mm,qK,Nu]
   have e:(256:Nat)^j=2^(8*j):=by rw[Nat.pow_mul]
   rw[e]
theorem Dz (kt:KT P g K){tK k:Nat}{kind:IntKind}(Kl:uk kind)(hK:P.underlying tK=some (.int kind)){I:World->Prop}{o len c:Nat}{src:Bs}(hI:∀ w,I w->io w S o src)(IT:len=src.length)(hk:k<=src.length)(JM:0<k)(hb:8*k<=kind.bits)
  {K':Act->Prop} (hs:12+6*(k-1)<=a.tmps.size) (h1:a.get 1=.slice (some ⟨S,o,none⟩) len c)
  (h:∀ a',a'.tmps.size=a.tmps.size->a'.defers=a.defers->a'.get (12+6*(k-1)-1)=.int kind ((ei (src.take k):Nat):Int)->K' a'):iR P I (kP K tK k) a K':=by
 refine m9 I _ _ a K' ?_
 have WU:k-1<src.length:=by omega
 obtain⟨b,KN⟩:∃ b,src[k-1]?=some b:=⟨src[k-1],by simp[WU]⟩
 have Px:=UInt8.toNat_lt b
 have Og:IntKind.wrap kind (b.toNat:Int)=b.toNat:=iT Kl (by rcases Kl with rfl|rfl|rfl<;>simp[IntKind.bits]<;>omega)
 have Mm:(src.take k).drop (k-1)=[b]:=by
  have hl:k-1<(src.take k).length:=by simp;omega
  rw[aZ hl]
  congr 1
  ·have:=(ah.1 KN).2
   simpa using this
  ·apply List.drop_eq_nil_of_le
   simp
   omega
 refine iF ?_
 rw[bp,h1]
 refine jC (i:=k-1) (k:=.i64) (sz:=1) (by rw[bp,bA aa]) rfl aa kt.sl (λw=>kt.u8.size w) ?_
 refine gT (v:=.int .u8 (b.toNat:Int)) (by rw[bp,bA (by simp only[bq];omega)]) (λw=>kt.u8.agg w) (λw hw=>by rw[Nat.mul_one];exact hI w hw _ b KN) ?_
 refine xZ (k:=.u8) (k':=kind) (m:=(b.toNat:Int)) (by rw[bp,bA (by simp only[bq];omega)]) kt.dU8 hK ?_
 rw[Og]
 show iR P I (nF K tK k (k-1) 1 12) _ K'
 refine uV (c:=c) kt Kl hK hI IT hk hb (k-1) 1 12 _ K' aa aa aa (by simp only[bq];omega) ?_ ?_ λa' Mh hd' Jn=>h a' (by rw[Mh];simp only[bq]) (by rw[hd'];simp only[b6]) Jn
 ·rw[b8 aa,b8 aa,b8 aa,b8 aa];exact h1
 ·rw[show 12-1=11 from rfl,bA (by simp only[bq];omega),Mm]
  simp[ei]
theorem om (kt:KT P g K){f ntmps tK k:Nat}{kind:IntKind}(hfn:FnIs P f ntmps [4] (gBig K tK kind k))(Jg:12+6*(k-1)<=ntmps)(Kl:uk kind)(hK:P.underlying tK=some (.int kind))(JM:0<k)(hb:8*k<=kind.bits)(_hbe:cv P K.tBE true 0)
  (T6:∃ fl,fo (kP K tK k++[mk (some 4) (.assign (tm (12+6*(k-1)-1)))])=fl/\fu (kP K tK k++[mk (some 4) (.assign (tm (12+6*(k-1)-1)))]) fl=kP K tK k/\dQ (kP K tK k++[mk (some 4) (.assign (tm (12+6*(k-1)-1)))]) fl=[mk (some 4) (.assign (tm (12+6*(k-1)-1)))])
  {v:Value} (KP:dj w S v r) (IT:k<=r.src.length):Calls P f #[.agg #[],v] w λe w'=>e=.returned (.int kind ((ei (r.src.take k):Nat):Int))/\br (λ_=>False) w w':=by
 obtain⟨o,c,hv,JB,Oa,LB,XS,Lo⟩:∃ o c,v=.slice (some ⟨S,o,none⟩) r.src.length c/\r.nl=false/\r.src.length<=c/\c<=maxLen/\S<w.heap.size/\io w S o r.src:=by
  rcases KP with⟨_,h2,_⟩|h
  ·rw[h2]at IT;simp at IT;omega
  ·exact h
 subst hv
 refine hfn.calls kt.mixed ab ?_
 have Jc:=dw #[.agg #[],.slice (some ⟨S,o,none⟩) r.src.length c] ntmps (by show 2<=ntmps;omega)
 have Ke:({ tmps:=#[.agg #[],.slice (some ⟨S,o,none⟩) r.src.length c]++Array.replicate (ntmps-(#[Value.agg #[],.slice (some ⟨S,o,none⟩) r.src.length c]:Array Value).size) undef,defers:=[] }:Act).get 0=.agg #[]:=by rw[db _ _ _ ab];rfl
 have IY:({ tmps:=#[.agg #[],.slice (some ⟨S,o,none⟩) r.src.length c]++Array.replicate (ntmps-(#[Value.agg #[],.slice (some ⟨S,o,none⟩) r.src.length c]:Array Value).size) undef,defers:=[] }:Act).get 1=.slice (some ⟨S,o,none⟩) r.src.length c:=by rw[db _ _ _ ab];rfl
 have KF:({ tmps:=#[.agg #[],.slice (some ⟨S,o,none⟩) r.src.length c]++Array.replicate (ntmps-(#[Value.agg #[],.slice (some ⟨S,o,none⟩) r.src.length c]:Array Value).size) undef,defers:=[] }:Act).defers=[]:=rfl
 have hsz':({ tmps:=#[.agg #[],.slice (some ⟨S,o,none⟩) r.src.length c]++Array.replicate (ntmps-(#[Value.agg #[],.slice (some ⟨S,o,none⟩) r.src.length c]:Array Value).size) undef,defers:=[] }:Act).tmps.size=ntmps:=Jc
 generalize({ tmps:=#[.agg #[],.slice (some ⟨S,o,none⟩) r.src.length c]++Array.replicate (ntmps-(#[Value.agg #[],.slice (some ⟨S,o,none⟩) r.src.length c]:Array Value).size) undef,defers:=[] }:Act)=a at Ke IY KF hsz' ⊢
 have WP:k-1<r.src.length:=by omega
 obtain⟨b,KN⟩:∃ b,r.src[k-1]?=some b:=⟨r.src[k-1],by simp[WP]⟩
 unfold gBig
 refine bJ (bF ?_)
 refine bP (v:=.pointer (some ⟨w.heap.size,0,none⟩)) (w':=w.alloc (.cells #[] K.tBE (0,0))) ?_ (b7 (wpList_nil ?_))
 ·have:a.eval (tm 0)=.agg #[]:=Ke
  simp[execOp,mk,this,Instr.box,newVar,newRow,newObj,Sem.run,Value.cells]
 have Jd:br (λ_=>False) w (w.alloc (.cells #[] K.tBE (0,0))):=br.alloc _ _ _
 have IX:((a.put (some 2) (.pointer (some ⟨w.heap.size,0,none⟩))).put (some 4) ((a.put (some 2) (.pointer (some ⟨w.heap.size,0,none⟩))).eval (ki kind 0))).tmps.size=ntmps:=by simp only[bq];exact hsz'
 have Pn:((a.put (some 2) (.pointer (some ⟨w.heap.size,0,none⟩))).put (some 4) ((a.put (some 2) (.pointer (some ⟨w.heap.size,0,none⟩))).eval (ki kind 0))).get 1=.slice (some ⟨S,o,none⟩) r.src.length c:=by rw[b8 aa,b8 aa];exact IY
 have Ma:((a.put (some 2) (.pointer (some ⟨w.heap.size,0,none⟩))).put (some 4) ((a.put (some 2) (.pointer (some ⟨w.heap.size,0,none⟩))).eval (ki kind 0))).defers=[]:=by simp only[b6];exact KF
 generalize((a.put (some 2) (.pointer (some ⟨w.heap.size,0,none⟩))).put (some 4) ((a.put (some 2) (.pointer (some ⟨w.heap.size,0,none⟩))).eval (ki kind 0)))=a1 at IX Pn Ma ⊢
 have Pc:io (w.alloc (.cells #[] K.tBE (0,0))) S o r.src:=Lo.keep Jd id
 generalize w.alloc (.cells #[] K.tBE (0,0))=w1 at Jd Pc ⊢
 refine bJ (bF (bv ?_))
 rw[bp,Pn]
 refine dJ (i:=k-1) (k:=.i64) (sz:=1) (by rw[bp,bA aa]) rfl aa kt.sl (kt.u8.size _) ?_
 refine cL (v:=.int .u8 (b.toNat:Int)) (by rw[bp,bA (by simp only[bq];omega)]) (kt.u8.agg _) (by rw[Nat.mul_one];exact Pc _ b KN) (wpList_nil ?_)
 have Jr:(((a1.put (some 5) (.slice (some ⟨S,o,none⟩) r.src.length c)).put (some 6) (.pointer (some ⟨S,o+(k-1)*1,none⟩))).put (some 7) (.int .u8 (b.toNat:Int))).tmps.size=ntmps:=by simp only[bq];exact IX
 have Ja:(((a1.put (some 5) (.slice (some ⟨S,o,none⟩) r.src.length c)).put (some 6) (.pointer (some ⟨S,o+(k-1)*1,none⟩))).put (some 7) (.int .u8 (b.toNat:Int))).get 1=.slice (some ⟨S,o,none⟩) r.src.length c:=by rw[b8 aa,b8 aa,b8 aa];exact Pn
 have JW:(((a1.put (some 5) (.slice (some ⟨S,o,none⟩) r.src.length c)).put (some 6) (.pointer (some ⟨S,o+(k-1)*1,none⟩))).put (some 7) (.int .u8 (b.toNat:Int))).defers=[]:=by simp only[b6];exact Ma
 generalize(((a1.put (some 5) (.slice (some ⟨S,o,none⟩) r.src.length c)).put (some 6) (.pointer (some ⟨S,o+(k-1)*1,none⟩))).put (some 7) (.int .u8 (b.toNat:Int)))=a2 at Jr Ja JW ⊢
 obtain⟨fl,Mi,Ph,Oq⟩:=T6
 refine bJ (.drw (λw'=>io w' S o r.src) ?_)
 rw[Mi,Ph,Oq]
 refine Dz (c:=c) kt Kl hK (λ_ h=>h) rfl IT JM hb (by rw[Jr];exact Jg) Ja λa3 JI Kp Jw=>?_
 have Km:br (λ_=>False) w1 w1.drew:=br.drew _ _
 have Lb:io w1.drew S o r.src:=Pc.keep Km id
 refine⟨Lb,?_⟩
 have hr:(execOp a3.eval (mk (some 4) (.assign (tm (12+6*(k-1)-1))))).run P w1.drew=.ok (.value (a3.eval (tm (12+6*(k-1)-1)))) w1.drew:=rfl
 unfold Oper.wp
 rw[hr]
 refine⟨Lb,.ret ⟨?_,?_,Jd.trans Km⟩⟩
 ·show(a3.put (some 4) _).defers=[]
  rw[b6,Kp];exact JW
 ·show Ending.returned (cE [4] (a3.put (some 4) (a3.eval (tm (12+6*(k-1)-1)))))=_
  simp only[cE]
  rw[bA aa,bp,Jw]
end
def rm (K:Kn)(z:Value)(k:Nat)(Rd F:GC):Code:=(gS [co 2 z,BN K k (uO K z) cY,Rd,Dr K k,F,cp .ret] 4).1
def Ep (K:Kn):GC:=bL 6 λn=>jV K 0 n++[mk (some (n+4)) (.indexAddr K.tSl (tm (n+3)) (ki .i64 0)),mk (some (n+5)) (.load K.tU8 (tm (n+4))),mk (some 3) (.assign (tm (n+5)))]
def oW (K:Kn)(f:Nat)(conv:Option (Nat × Nat))(n:Nat):List Oper:=
 mk (some n) (.load K.tBE (.global K.gBE))::(jV K 0 (n+1)++(cl (some (n+5)) f [tm n,tm (n+4)] ::
  (match conv with|some (A,B)=>[mk (some (n+6)) (.convert A B (tm (n+5))),mk (some 3) (.assign (tm (n+6)))]|none=>[mk (some 3) (.assign (tm (n+5)))])))
def BP (K:Kn)(f:Nat)(conv:Option (Nat × Nat)):GC:=λn=>(.region 1 (oW K f conv n).toArray true,n+(match conv with|some _=>7|none=>6))
def Eo (A B:Nat):GC:=bL 2 λn=>[mk (some n) (.move (tm 3)),mk (some (n+1)) (.convert A B (tm n)),mk (some 2) (.assign (tm (n+1)))]
section
variable {P:Program} {g:G} {K:Kn} {T S R:Nat} {r:RS} {x n:Nat} {KK:Act->World->Prop} {Q:Exit->Act->World->Prop} {a:Act} {w:World}
def jQ (T S R k:Nat)(r:RS)(w:World)(z fv:Value)(e:Ending)(w':World):Prop:=
 (if r.src.length<k then e=.returned z/\ep w' T S R .fail else e=.returned fv/\ep w' T S R ⟨r.src.drop k,r.bad,r.nl⟩)/\br (·=R) w w'
theorem pX (kt:KT P g K){f ntmps kr k:Nat}{z rv fv:Value}{Rd F:GC}(hfn:FnIs P f ntmps [2] (rm K z k Rd F))(hRn:(Rd 16).2=16+kr)(Jg:16+kr+8<=ntmps)(hR:ep w T S R r)(hRS:S≠R)
  (hRd:k<=r.src.length->∀ (v:Value) (a:Act) (K':Act->World->Prop) (Q':Exit->Act->World->Prop),C2 w T S R v r->a.get 0=pt R 0->a.tmps.size=ntmps->(∀ a' w',Pv 3 0 0 16 a a'->a'.get 3=rv->br (λ_=>False) w w'->K' a' w')->cf P (Rd 16).1 (Exit.then K' Q') a w)
  (hF:k<=r.src.length->∀ (a:Act) (w':World) (K':Act->World->Prop) (Q':Exit->Act->World->Prop),a.get 3=rv->a.tmps.size=ntmps->(∀ a',a'.defers=a.defers->a'.get 2=fv->K' a' w')->cf P (F (16+kr+8)).1 (Exit.then K' Q') a w') :
  Calls P f #[pt R 0] w (jQ T S R k r w z fv):=by
 refine hfn.calls kt.mixed ab ?_
 have Jc:=dw #[pt R 0] ntmps (by show 1<=ntmps;omega)
 have Ke:({ tmps:=#[pt R 0]++Array.replicate (ntmps-(#[pt R 0]:Array Value).size) undef,defers:=[] }:Act).get 0=pt R 0:=by rw[db _ _ _ ab];rfl
 have KF:({ tmps:=#[pt R 0]++Array.replicate (ntmps-(#[pt R 0]:Array Value).size) undef,defers:=[] }:Act).defers=[]:=rfl
 have hsz':({ tmps:=#[pt R 0]++Array.replicate (ntmps-(#[pt R 0]:Array Value).size) undef,defers:=[] }:Act).tmps.size=ntmps:=Jc
 generalize({ tmps:=#[pt R 0]++Array.replicate (ntmps-(#[pt R 0]:Array Value).size) undef,defers:=[] }:Act)=a at Ke KF hsz' ⊢
 obtain⟨v,hv⟩:=hR
 refine cC (bt (eW (x:=2) (m:=0) (k0:=0) (.inl rfl) aa λa1 IP IY=>?_))
 have IX:=IP.size
 have Ud:a1.get 0=pt R 0:=(IP.get 0 aa (.inr ⟨by omega,by omega⟩)).trans Ke
 rw[show(co 2 z 4).2=4 from rfl]
 refine bt ?_
 rw[cn]
 refine Dq kt Ud hv aa λa2 IR=>?_
 have Jr:=IR.size
 have NJ:a2.get 0=pt R 0:=(IR.get 0 aa (.inr ⟨by omega,by omega⟩)).trans Ud
 by_cases IU:r.src.length<k
 ·rw[ax IU]
  refine wO kt NJ hv hRS aa aa λa3 w3 Kp Jw JQ IZ=>⟨by rw[Kp,IR.defers,IP.defers];exact KF,?_⟩
  refine⟨?_,IZ⟩
  rw[ax IU]
  exact⟨by simp only[cE];rw[Jw],JQ⟩
 ·rw[al IU]
  have hk:k<=r.src.length:=by omega
  refine .skip ?_
  show LW P [Rd,Dr K k,F,cp .ret] 16 _ a2 w
  refine bt (hRd hk v a2 _ _ hv NJ aa λa3 w3 IW Jw IZ=>?_)
  have JI:=IW.size
  rw[hRn]
  have O4:C2 w3 T S R v r:=by
   have Vx:R<w.heap.size:=(aj.1 hv.1).1
   exact⟨by rw[IZ.block R Vx id];exact hv.1,hv.2.keep IZ id⟩
  have KI:a3.get 0=pt R 0:=(IW.get 0 aa (.inr ⟨by omega,by omega⟩)).trans NJ
  refine bt (Ig kt KI O4 hk hRS aa aa λa4 Jp JP=>?_)
  have L3:=Jp.size
  rw[show(Dr K k (16+kr)).2=16+kr+8 from rfl]
  refine bt (hF hk a4 _ _ _ ((Jp.get 3 aa (.inr ⟨by omega,by omega⟩)).trans Jw) aa λa5 N7 Lj=>bt (.ret ?_))
  refine⟨by rw[N7,Jp.defers,IW.defers,IR.defers,IP.defers];exact KF,?_,(IZ.mono λ_ _ h=>h.elim).trans (br.setRow (λk=>k=R) _ _ _ rfl)⟩
  rw[al IU]
  exact⟨by simp only[cE];rw[Lj],JP⟩
theorem uc {v:Value}(h:dj w S v r)(hk:0<r.src.length):∃ o c,v=.slice (some ⟨S,o,none⟩) r.src.length c/\io w S o r.src:=by
 rcases h with⟨_,h2,_⟩|⟨o,c,h1,_,_,_,_,h6⟩
 ·rw[h2]at hk;simp at hk
 ·exact⟨o,c,h1,h6⟩
theorem F5 (kt:KT P g K){_ntmps:Nat}{b:UInt8}{t:Bs}(hb:r.src=b::t){v:Value}(hv:C2 w T S R v r)(h0:a.get 0=pt R 0)(hn:n+6<=a.tmps.size)(QY:3<n)
  (h:∀ a',Pv 3 0 0 n a a'->a'.get 3=.int .u8 (b.toNat:Int)->KK a' w):cf P (Ep K n).1 (Exit.then KK Q) a w:=by
 obtain⟨o,c,rfl,Lo⟩:=uc hv.2 (by rw[hb];simp)
 refine bF (lf kt h0 hv aa λa1 IP IY=>?_)
 have IX:=IP.size
 refine dJ (i:=0) (k:=.i64) (sz:=1) (by rw[bp,IY]) rfl (by rw[hb];simp) kt.sl (kt.u8.size _) ?_
 refine cL (v:=.int .u8 (b.toNat:Int)) (by rw[bp,bA aa]) (kt.u8.agg _) (by have:=Lo 0 b (by rw[hb];rfl);simpa using this) (b7 (wpList_nil ?_))
 rw[bp,bA (by simp only[bq];omega)]
 have hp:Pv 3 0 0 n a a1:=⟨IP.size,IP.defers,λs hs hh=>IP.get s aa (.inr ⟨by omega,by omega⟩)⟩
 exact h _ (((hp.put _ aa).put _ aa).put _ aa) (bA (by simp only[bq];omega))
theorem F4 {A B:Nat}{k k':IntKind}{m:Int}(hA:P.underlying A=some (.int k))(hB:P.underlying B=some (.int k'))(h3:a.get 3=.int k m)(hn:n+2<=a.tmps.size)(V3:2<n)(h:∀ a',a'.defers=a.defers->a'.get 2=.int k' (k'.wrap m)->KK a' w):cf P (Eo A B n).1 (Exit.then KK Q) a w:=by
 refine bF (bv ?_)
 rw[bp,h3]
 refine ci (by rw[bp,bA aa]) hA hB (b7 (wpList_nil ?_))
 rw[bp,bA (by simp only[bq];omega)]
 exact h _ (by simp only[b6]) (bA (by simp only[bq];omega))
theorem F8 (kt:KT P g K){I:World->Prop}{s:Nat}{v:Value}{l:List Oper}{K':Act->Prop}(hs:a.get s=pt R 0)(hI:∀ w,I w->w.cell? ⟨R,0,none⟩=some v)(hn:n+4<=a.tmps.size)(h:∀ a',Pv n 0 0 n a a'->a'.get (n+3)=v->iR P I l a' K'):iR P I (jV K s n++l) a K':=by
 show iR P I (mk (some n) (.move (tm s))::mk (some (n+1)) (.nilCheck (tm n))::mk (some (n+2)) (.fieldAddr K.tRS (tm (n+1)) 0)::mk (some (n+3)) (.load K.tSl (tm (n+2)))::l) a K'
 refine iF ?_
 rw[bp,hs]
 refine oC (by rw[bp,bA aa];rfl) ?_
 refine wZ (by rw[bp,bA (by simp only[bq];omega)]) kt.f0 ?_
 refine gT (by rw[bp,bA (by simp only[bq];omega)]) kt.f0.var.agg hI ?_
 exact h _ (((((Pv.refl _ _ _ _ _).put _ aa).put _ aa).put _ aa).put _ aa) (bA (by simp only[bq];omega))
theorem xT (kt:KT P g K){f k:Nat}{kind:IntKind}{conv:Option (Nat × Nat)}{rv:Value}{v:Value}(U5:cv P K.tBE true 0)(Vo:Ent P f)(hf:∀ w':World,dj w' S v r->Calls P f #[.agg #[],v] w' λe w''=>e=.returned (.int kind ((ei (r.src.take k):Nat):Int))/\br (λ_=>False) w' w'')
  (QN:match conv with
   | some (A,B)=>∃ k',P.underlying A=some (.int kind)/\P.underlying B=some (.int k')/\rv=.int k' (k'.wrap ((ei (r.src.take k):Nat):Int))
   | none=>rv=.int kind ((ei (r.src.take k):Nat):Int))
  (hv:C2 w T S R v r) (h0:a.get 0=pt R 0) (hn:16+7<=a.tmps.size)
  (h:∀ a' w',Pv 3 0 0 16 a a'->a'.get 3=rv->br (λ_=>False) w w'->KK a' w'):cf P (BP K f conv 16).1 (Exit.then KK Q) a w:=by
 have Uf:∃ fl,fo (oW K f conv 16)=fl/\fu (oW K f conv 16) fl=mk (some 16) (.load K.tBE (.global K.gBE))::(jV K 0 17++[])/\dQ (oW K f conv 16) fl=cl (some 21) f [tm 16,tm 20] ::
   (match conv with|some (A,B)=>[mk (some 22) (.convert A B (tm 21)),mk (some 3) (.assign (tm 22))]|none=>[mk (some 3) (.assign (tm 21))]):=by
  cases conv with
  | none=>exact⟨[false,false,false,false,false,true,true],rfl,rfl,rfl⟩
  | some q=>exact⟨[false,false,false,false,false,true,true,true],rfl,rfl,rfl⟩
 obtain⟨fl,h1,h2,h3⟩:=Uf
 have IS:w.cell? ⟨R,0,none⟩=some v:=by simp[World.cell?,hv.1]
 refine .drw (λw'=>w'.cell? ⟨R,0,none⟩=some v) ?_
 rw[h1,h2,h3]
 refine⟨.agg #[],λw' _=>?_,?_⟩
 ·have he:a.eval (.global K.gBE)=.pointer (some ⟨K.gBE,0,none⟩):=rfl
  have hl:=run_loadCells_list (P:=P) w' ⟨K.gBE,0,none⟩ [] (λj v hj=>by simp at hj)
  simp only[List.length_nil]at hl
  simp[execOp,mk,he,Instr.loadAt,Instr.sureAddr,loadVar,U5.agg,U5.size,hl]
 ·show iR P _ (jV K 0 17++[]) (a.put (some 16) (.agg #[])) _
  have QD:Pv 3 0 0 16 a (a.put (some 16) (.agg #[])):=(Pv.refl _ _ _ _ _).put _ aa
  refine F8 kt (v:=v) (by rw[b8 aa];exact h0) (λ_ h=>h) (by simp only[bq];omega) λa1 IP IY=>?_
  have IX:=IP.size
  rw[bq]at IX
  have Xk:a1.get 16=.agg #[]:=by rw[IP.get 16 aa (.inr ⟨by omega,by omega⟩),bA aa]
  have L7:Pv 3 0 0 16 a a1:=QD.trans ⟨IP.size,IP.defers,λs hs hh=>IP.get s aa (.inr ⟨by omega,by omega⟩)⟩
  have Km:br (λ_=>False) w w.drew:=br.drew _ _
  refine⟨Km.cell id IS,?_⟩
  refine iV (vs:=#[.agg #[],v]) rfl Vo (by simp[bp,Xk,IY]) (hf w.drew (hv.2.keep Km id)) λe w2 hR=>?_
  obtain⟨he,IV⟩:=hR
  have J0:br (λ_=>False) w w2:=Km.trans IV
  refine⟨_,he,?_⟩
  cases conv with
  | none=>
   subst QN
   refine⟨J0.cell id IS,?_⟩
   have hr:(execOp (a1.put (some 21) (.int kind ((ei (r.src.take k):Nat):Int))).eval (mk (some 3) (.assign (tm 21)))).run P w2=.ok (.value ((a1.put (some 21) (.int kind ((ei (r.src.take k):Nat):Int))).eval (tm 21))) w2:=rfl
   unfold Oper.wp
   rw[hr]
   refine⟨J0.cell id IS,h _ w2 ((L7.put _ aa).put _ aa) ?_ J0⟩
   show((a1.put (some 21) _).put (some 3) _).get 3=_
   rw[bA (by simp only[bq];omega),bp,bA aa]
  | some q=>
   obtain⟨A,B⟩:=q
   obtain⟨k',hA,hB,rfl⟩:=QN
   refine⟨J0.cell id IS,?_⟩
   have e21:(a1.put (some 21) (.int kind ((ei (r.src.take k):Nat):Int))).eval (tm 21)=.int kind ((ei (r.src.take k):Nat):Int):=by rw[bp,bA aa]
   have hr:(execOp (a1.put (some 21) (.int kind ((ei (r.src.take k):Nat):Int))).eval (mk (some 22) (.convert A B (tm 21)))).run P w2=.ok (.value (.int k' (k'.wrap ((ei (r.src.take k):Nat):Int)))) w2:=by
    simp[execOp,mk,e21,convert,run_underlying hA,run_underlying hB,Conv.intToInt]
   unfold Oper.wp
   rw[hr]
   refine⟨J0.cell id IS,?_⟩
   have Tf:(execOp ((a1.put (some 21) (.int kind ((ei (r.src.take k):Nat):Int))).put (some 22) (.int k' (k'.wrap ((ei (r.src.take k):Nat):Int)))).eval (mk (some 3) (.assign (tm 22)))).run P w2=.ok (.value (((a1.put (some 21) (.int kind ((ei (r.src.take k):Nat):Int))).put (some 22) (.int k' (k'.wrap ((ei (r.src.take k):Nat):Int)))).eval (tm 22))) w2:=rfl
   unfold Oper.wp
   show Oper.upon P _ _ _ _ _
   rw[show(mk (some 22) (Op.convert A B (tm 21))).dst=some 22 from rfl,Tf]
   refine⟨J0.cell id IS,h _ w2 (((L7.put _ aa).put _ aa).put _ aa) ?_ J0⟩
   show(((a1.put (some 21) _).put (some 22) _).put (some 3) _).get 3=_
   rw[bA (by simp only[bq];omega),bp,bA (by simp only[bq];omega)]
end
def RdOk (P:Program)(T:Nat)(p:PF)(f:Nat):Prop:=
 Ent P f/\∀ (w:World) (S R:Nat) (r:RS),ep w T S R r->S≠R->Calls P f #[pt R 0] w λe w'=>
  ∃ v,e=.returned v/\ep w' T S R (p.run r).2/\br (·=R) w w'/\∀ X:Nat->Prop,(∀ k,X k->k<w.heap.size)->¬ X S->jD w' X (j8 p) v.cells.toList (p.run r).1
theorem zQ {k:IntKind}(hk:k=.i8 \/ k=.i16 \/ k=.i32 \/ k=.i64){m:Nat}(h:m<2^k.bits):k.wrap (m:Int)=lr k.bits m:=by
 rcases hk with rfl|rfl|rfl|rfl
 ·simp only[IntKind.bits]at h
  by_cases h2:m<128
  ·have e:¬ ((m:Int)%256 ≥ 128):=by omega
   simp[IntKind.wrap,IntKind.bits,IntKind.signed,lr,h2]
   omega
  ·simp[IntKind.wrap,IntKind.bits,IntKind.signed,lr,h2]
   omega
 ·simp only[IntKind.bits]at h
  by_cases h2:m<32768
  ·have e:¬ ((m:Int)%65536 ≥ 32768):=by omega
   simp[IntKind.wrap,IntKind.bits,IntKind.signed,lr,h2]
   omega
  ·simp[IntKind.wrap,IntKind.bits,IntKind.signed,lr,h2]
   omega
 ·simp only[IntKind.bits]at h
  by_cases h2:m<2147483648
  ·have e:¬ ((m:Int)%4294967296 ≥ 2147483648):=by omega
   simp[IntKind.wrap,IntKind.bits,IntKind.signed,lr,h2]
   omega
  ·simp[IntKind.wrap,IntKind.bits,IntKind.signed,lr,h2]
   omega
 ·simp only[IntKind.bits]at h
  by_cases h2:m<9223372036854775808
  ·have e:¬ ((m:Int)%18446744073709551616 ≥ 9223372036854775808):=by omega
   simp[IntKind.wrap,IntKind.bits,IntKind.signed,lr,h2]
   omega
  ·simp[IntKind.wrap,IntKind.bits,IntKind.signed,lr,h2]
   omega
section
variable {P:Program} {g:G} {K:Kn} {T:Nat}
def cI8 (K:Kn):Code:=rm K (.int .i8 0) 1 (Ep K) (Eo K.tU8 K.tI8)
def cI16 (K:Kn):Code:=rm K (.int .i16 0) 2 (BP K K.fU16 (some (K.tU16,K.tI16))) (dg 3 2)
def I7 (K:Kn):Code:=rm K (.int .u16 0) 2 (BP K K.fU16 none) (dg 3 2)
def cI32 (K:Kn):Code:=rm K (.int .i32 0) 4 (BP K K.fU32 (some (K.tU32,K.tI32))) (dg 3 2)
def cR64 (K:Kn):Code:=rm K (.int .u64 0) 8 (BP K K.fU64 none) (dg 3 2)
def cI64 (K:Kn):Code:=(gS [co 2 (.int .i64 0),bL 3 λn=>[mk (some n) (.move (tm 0)),cl (some (n+1)) K.fR64 [tm n],mk (some (n+2)) (.convert K.tU64 K.tI64 (tm (n+1))),mk (some 2) (.assign (tm (n+2)))],cp .ret] 3).1
theorem sJ {rv:Value}{a:Act}{w:World}{n:Nat}{KK:Act->World->Prop}{Q:Exit->Act->World->Prop}(h3:a.get 3=rv)(hn:n+1<=a.tmps.size)(V3:2<n)(h:∀ a',a'.defers=a.defers->a'.get 2=rv->KK a' w):cf P (dg 3 2 n).1 (Exit.then KK Q) a w:=
 gJ (x:=2) (m:=0) (k0:=0) (.inl rfl) (ae _) aa aa aa λa' hp hg=>h a' hp.defers (hg.trans h3)
theorem u5 {k:Nat}{r:RS}(h:r.src.length<k):rI k r=(lr (8*k) 0,.fail):=by simp[rI,rU,h]
theorem xN {k:Nat}{r:RS}(h:k<=r.src.length):rI k r=(lr (8*k) (ei (r.src.take k)),⟨r.src.drop k,r.bad,r.nl⟩):=by
 have:¬ r.src.length<k:=by omega
 simp[rI,rU,this]
theorem mX {k:Nat}{l:Bs}(h:k<=l.length):ei (l.take k)<256^k:=by
 have:=rJ (l.take k)
 rwa [aG,Nat.min_eq_left h]at this
theorem rdOk_int {p:eH}{k:Nat}{kind:IntKind}(hp:(p=.i8/\k=1) \/ (p=.i16/\k=2) \/ (p=.i32/\k=4) \/ (p=.i64/\k=8))(Kl:p.kind=kind){w w':World}{S R:Nat}{r:RS}{e:Ending}
  (h:jQ T S R k r w (.int kind 0) (.int kind (kind.wrap ((ei (r.src.take k):Nat):Int))) e w') :
  e=.returned (.int kind (rI k r).1)/\ep w' T S R (rI k r).2/\br (·=R) w w'/\∀ X:Nat->Prop,jD w' X (.prim p) (Value.int kind (rI k r).1).cells.toList (.n (rI k r).1):=by
 obtain⟨h1,h2⟩:=h
 have hb:kind.bits=8*k/\(kind=.i8 \/ kind=.i16 \/ kind=.i32 \/ kind=.i64):=by
  rcases hp with⟨rfl,rfl⟩|⟨rfl,rfl⟩|⟨rfl,rfl⟩|⟨rfl,rfl⟩<;>subst Kl<;>simp[eH.kind,IntKind.bits]
 have KC:∀ m:Nat,m<256^k->p.fits (lr (8*k) m):=by
  intro m hm
  rcases hp with⟨rfl,rfl⟩|⟨rfl,rfl⟩|⟨rfl,rfl⟩|⟨rfl,rfl⟩<;>simp[eH.fits,lr]at hm ⊢<;>split<;>omega
 have Pi:∀ x:Int,p.fits x->∀ X:Nat->Prop,jD w' X (.prim p) (Value.int kind x).cells.toList (.n x):=by
  intro x hx X
  rcases hp with⟨rfl,rfl⟩|⟨rfl,rfl⟩|⟨rfl,rfl⟩|⟨rfl,rfl⟩<;>subst Kl<;>exact⟨x,rfl,rfl,hx⟩
 by_cases IU:r.src.length<k
 ·rw[ax IU]at h1
  rw[u5 IU]
  have h0:lr (8*k) 0=0:=by
   rcases hp with⟨_,rfl⟩|⟨_,rfl⟩|⟨_,rfl⟩|⟨_,rfl⟩<;>simp[lr]
  refine⟨by rw[h0];exact h1.1,h1.2,h2,λX=>Pi _ (KC 0 (by
   rcases hp with⟨_,rfl⟩|⟨_,rfl⟩|⟨_,rfl⟩|⟨_,rfl⟩<;>simp)) X⟩
 ·rw[al IU]at h1
  have hk:k<=r.src.length:=by omega
  have hm:=mX hk
  rw[xN hk]
  have hw:kind.wrap ((ei (r.src.take k):Nat):Int)=lr (8*k) (ei (r.src.take k)):=by
   rw[zQ hb.2 (by rw[hb.1,Nat.pow_mul];exact hm),hb.1]
  rw[hw]at h1
  exact⟨h1.1,h1.2,h2,λX=>Pi _ (KC _ hm) X⟩
theorem lP {l:Bs}(h:1<=l.length):∃ b t,l=b::t:=by
 cases l with
 | nil=>simp at h
 | cons b t=>exact⟨b,t,rfl⟩
theorem i8_calls (kt:KT P g K)(Yg:cJ K.tI8=true){f ntmps:Nat}(hfn:FnIs P f ntmps [2] (cI8 K))(Jg:32<=ntmps){w:World}{S R:Nat}{r:RS}(hR:ep w T S R r)(hRS:S≠R) :
  Calls P f #[pt R 0] w (jQ T S R 1 r w (.int .i8 0) (.int .i8 (IntKind.wrap .i8 ((ei (r.src.take 1):Nat):Int)))):=by
 refine pX kt (kr:=6) (rv:=.int .u8 ((ei (r.src.take 1):Nat):Int)) hfn rfl aa hR hRS (λhk v a K' Q' hv h0 hs h=>?_) (λhk a w' K' Q' h3 hs h=>?_)
 ·obtain⟨b,t,hb⟩:=lP hk
  refine F5 (_ntmps:=ntmps) kt hb hv h0 aa aa λa' hp hg=>h a' w hp ?_ (br.refl _ _)
  rw[hg,hb]
  simp[ei]
 ·exact F4 kt.dU8 (kt.dI8 Yg) h3 aa aa h
theorem rdOk_i8 (kt:KT P g K)(Yg:cJ K.tI8=true){f ntmps:Nat}(hfn:FnIs P f ntmps [2] (cI8 K))(Jg:32<=ntmps):RdOk P T .i8 f:=
 ⟨hfn.ent,λw S R r hR hRS=>(i8_calls kt Yg hfn Jg hR hRS).mono λe w' h=>by
  obtain⟨h1,h2,h3,h4⟩:=rdOk_int (p:=.i8) (.inl ⟨rfl,rfl⟩) rfl h
  exact⟨_,h1,h2,h3,λX _ _=>h4 X⟩⟩
end
structure KSub (P:Program)(g:G)(K:Kn)(T:Nat):Prop where
 e16:cJ (g.rd .i16)=true->Ent P (g.rd .i16)
 c16:cJ (g.rd .i16)=true->∀ (w:World) (S R:Nat) (r:RS),ep w T S R r->S≠R->Calls P (g.rd .i16) #[pt R 0] w λe w'=>e=.returned (.int .i16 (rI 2 r).1)/\ep w' T S R (rI 2 r).2/\br (·=R) w w'
 e32:cJ (g.rd .i32)=true->Ent P (g.rd .i32)
 c32:cJ (g.rd .i32)=true->∀ (w:World) (S R:Nat) (r:RS),ep w T S R r->S≠R->Calls P (g.rd .i32) #[pt R 0] w λe w'=>e=.returned (.int .i32 (rI 4 r).1)/\ep w' T S R (rI 4 r).2/\br (·=R) w w'
 eU:cJ g.uv=true->Ent P g.uv
 cU:cJ g.uv=true->∀ (w:World) (S R:Nat) (r:RS),ep w T S R r->S≠R->Calls P g.uv #[pt R 0] w λe w'=>e=.returned (.int .u32 (bZ r).1)/\ep w' T S R (bZ r).2/\br (·=R) w w'
 eS:cJ g.span=true->Ent P g.span
 cS:cJ g.span=true->∀ (w:World) (S R:Nat) (r:RS) (k:Int),ep w T S R r->S≠R->Calls P g.span #[pt R 0,.int .i64 k] w λe w'=>
  ∃ v,e=.returned v/\ep w' T S R (cd k r).2/\br (·=R) w w'/\dj w' S v ⟨(cd k r).1.octets,false,(cd k r).1.isNul⟩
 dStr:P.underlying K.tStr=some .string
 vStr:cv P K.tStr false 1
 zStr:∀ w,(zeroValue K.tStr).run P w=.ok (.string ⟨#[]⟩) w
def pY (f:Nat):GC:=bL 2 λn=>[mk (some n) (.move (tm 0)),cl (some (n+1)) f [tm n],mk (some 3) (.assign (tm (n+1)))]
def nv (g:G)(A B:Nat)(k:IntKind):GC:=bL 4 λn=>[mk (some n) (.move (tm 0)),cl (some (n+1)) g.uv [tm n],mk (some (n+2)) (.convert A B (tm (n+1))),mk (some (n+3)) (.binOp .sub B (tm (n+2)) (ki k 1) 0),mk (some 3) (.assign (tm (n+3)))]
def pT (g:G)(A B n:Nat):List Oper:=[mk (some n) (.move (tm 0)),mk (some (n+1)) (.move (tm 3)),mk (some (n+2)) (.convert A B (tm (n+1))),cl (some (n+3)) g.span [tm n,tm (n+2)]]
def sA (g:G)(n:Nat):List Oper:=[mk (some n) (.move (tm 0)),mk (some (n+1)) (.move (tm 3)),cl (some (n+2)) g.span [tm n,tm (n+1)]]
def cStr (g:G)(K:Kn):Code:=(gS [co 2 (.string ⟨#[]⟩),pY (g.rd .i16),bL 5 λn=>pT g K.tI16 K.tInt n++[mk (some (n+4)) (.convert K.tSl K.tStr (tm (n+3))),mk (some 2) (.assign (tm (n+4)))],cp .ret] 4).1
def cCStr (g:G)(K:Kn):Code:=(gS [co 2 (.string ⟨#[]⟩),nv g K.tU32 K.tInt .i64,bL 4 λn=>sA g n++[mk (some (n+3)) (.convert K.tSl K.tStr (tm (n+2))),mk (some 2) (.assign (tm (n+3)))],cp .ret] 4).1
def wP (T:Nat)(k:IntKind)(z:Value):GC:=gb 1 2 (λn=>[mk (some n) (.move (tm 3)),mk (some (n+1)) (.binOp .lss T (tm n) (ki k 0) 0)]) (gS [co 2 z,cp .ret]) cY
def BO (K:Kn)(T:Nat)(k:IntKind):GC:=gb 1 2 (λn=>[mk (some n) (.move (tm 3)),mk (some (n+1)) (.binOp .eql T (tm n) (ki k (-1)) 0)]) (gS [bL 1 λn=>[mk (some n) (.buildSlice K.tSl 0 #[]),mk (some 2) (.assign (tm n))],cp .ret]) cY
def cNStr (g:G)(K:Kn):Code:=(gS [co 2 (.pointer none),pY (g.rd .i16),wP K.tI16 .i16 (.pointer none),bL 5 λn=>pT g K.tI16 K.tInt n++[mk (some (n+4)) (.convert K.tSl K.tStr (tm (n+3))),mk (some 4) (.alloc K.tStr),mk none (.store K.tStr (tm 4) (tm (n+4)))],
 bL 0 λ_=>[mk (some 2) (.assign (tm 4))],cp .ret] 5).1
def cCNStr (g:G)(K:Kn):Code:=(gS [co 2 (.pointer none),nv g K.tU32 K.tInt .i64,wP K.tInt .i64 (.pointer none),bL 4 λn=>sA g n++[mk (some (n+3)) (.convert K.tSl K.tStr (tm (n+2))),mk (some 4) (.alloc K.tStr),mk none (.store K.tStr (tm 4) (tm (n+3)))],
 bL 0 λ_=>[mk (some 2) (.assign (tm 4))],cp .ret] 5).1
def FA (g:G)(K:Kn):Code:=(gS [co 2 (.slice none 0 0),pY (g.rd .i32),BO K K.tI32 .i32,bL 4 λn=>pT g K.tI32 K.tInt n++[mk (some 2) (.assign (tm (n+3)))],cp .ret] 4).1
def D4 (g:G)(K:Kn):Code:=(gS [co 2 (.slice none 0 0),nv g K.tU32 K.tInt .i64,BO K K.tInt .i64,bL 3 λn=>sA g n++[mk (some 2) (.assign (tm (n+2)))],cp .ret] 4).1
def D3 (g:G)(K:Kn):Code:=(gS [co 2 (.slice none 0 0),pY (g.rd .i32),wP K.tI32 .i32 (.slice none 0 0),bL 4 λn=>pT g K.tI32 K.tInt n++[mk (some 4) (.assign (tm (n+3)))],dg 4 2,cp .ret] 5).1
section
variable {P:Program} {g:G} {K:Kn} {T S R:Nat} {r:RS} {n:Nat} {KK:Act->World->Prop} {Q:Exit->Act->World->Prop} {a:Act} {w:World}
theorem uL {f:Nat}{v:Value}{r':RS}(hE:Ent P f)(hC:Calls P f #[pt R 0] w λe w'=>e=.returned v/\ep w' T S R r'/\br (·=R) w w')(h0:a.get 0=pt R 0)(hn:n+2<=a.tmps.size)(QY:3<n)
  (h:∀ a' w',Pv 3 0 0 n a a'->a'.get 3=v->ep w' T S R r'->br (·=R) w w'->KK a' w'):cf P (pY f n).1 (Exit.then KK Q) a w:=by
 refine bF (bv ?_)
 rw[bp,h0]
 refine cj (vs:=#[pt R 0]) hE (by simp[bp,bA (show n<a.tmps.size by omega)]) hC λe w' hR=>⟨_,hR.1,b7 (wpList_nil ?_)⟩
 rw[bp,bA (by simp only[bq];omega)]
 exact h _ w' (((((Pv.refl _ _ _ _ _).put _ aa).put _ aa).put _ aa)) (bA (by simp only[bq];omega)) hR.2.1 hR.2.2
theorem mI (ks:KSub P g K T)(L1:cJ g.span=true){ops:Array Oper}{l:List Oper}{A B:Nat}{k:IntKind}{x:Int}(_hk:k=.i16 \/ k=.i32)(hA:P.underlying A=some (.int k))(hB:P.underlying B=some (.int .i64))(hx:-2147483648<=x/\x<2147483648)(h0:a.get 0=pt R 0)(h3:a.get 3=.int k x)(hR:ep w T S R r)(hRS:S≠R)
  (hn:n+4<=a.tmps.size) (QY:3<n)
  (h:∀ a' w' v,Pv n 0 0 n a a'->a'.get (n+3)=v->ep w' T S R (cd x r).2->br (·=R) w w'->dj w' S v ⟨(cd x r).1.octets,false,(cd x r).1.isNul⟩->wpList P ops Q l a' w'):wpList P ops Q (pT g A B n++l) a w:=by
 show wpList P ops Q (mk (some n) (.move (tm 0))::mk (some (n+1)) (.move (tm 3))::mk (some (n+2)) (.convert A B (tm (n+1)))::cl (some (n+3)) g.span [tm n,tm (n+2)]::l) a w
 refine bv ?_
 rw[bp,h0]
 refine bv ?_
 rw[bp,b8 aa,h3]
 have hw:IntKind.i64.wrap x=x:=by simp[IntKind.wrap,IntKind.bits,IntKind.signed];omega
 refine ci (k:=k) (k':=.i64) (by rw[bp,bA (by simp only[bq];omega)]) hA hB ?_
 rw[hw]
 refine cj (vs:=#[pt R 0,.int .i64 x]) (ks.eS L1) ?_ (ks.cS L1 w S R r x hR hRS) λe w' Kr=>?_
 ·simp only[List.map_cons,List.map_nil,bp]
  rw[bA (by simp only[bq];omega),b8 (show n≠n+2 by omega),b8 (show n≠n+1 by omega),bA aa]
 ·obtain⟨v,he,h1,h2,h4⟩:=Kr
  exact⟨v,he,h _ w' v (((((Pv.refl _ _ _ _ _).put _ aa).put _ aa).put _ aa).put _ aa) (bA (by simp only[bq];omega)) h1 h2 h4⟩
theorem pn (ks:KSub P g K T)(L1:cJ g.span=true){ops:Array Oper}{l:List Oper}{x:Int}(h0:a.get 0=pt R 0)(h3:a.get 3=.int .i64 x)(hR:ep w T S R r)(hRS:S≠R)(hn:n+3<=a.tmps.size)(QY:3<n)
  (h:∀ a' w' v,Pv n 0 0 n a a'->a'.get (n+2)=v->ep w' T S R (cd x r).2->br (·=R) w w'->dj w' S v ⟨(cd x r).1.octets,false,(cd x r).1.isNul⟩->wpList P ops Q l a' w'):wpList P ops Q (sA g n++l) a w:=by
 show wpList P ops Q (mk (some n) (.move (tm 0))::mk (some (n+1)) (.move (tm 3))::cl (some (n+2)) g.span [tm n,tm (n+1)]::l) a w
 refine bv ?_
 rw[bp,h0]
 refine bv ?_
 rw[bp,b8 aa,h3]
 refine cj (vs:=#[pt R 0,.int .i64 x]) (ks.eS L1) ?_ (ks.cS L1 w S R r x hR hRS) λe w' Kr=>?_
 ·simp only[List.map_cons,List.map_nil,bp]
  rw[bA (by simp only[bq];omega),b8 (show n≠n+1 by omega),bA aa]
 ·obtain⟨v,he,h1,h2,h4⟩:=Kr
  exact⟨v,he,h _ w' v ((((Pv.refl _ _ _ _ _).put _ aa).put _ aa).put _ aa) (bA (by simp only[bq];omega)) h1 h2 h4⟩
theorem lg (kt:KT P g K)(ks:KSub P g K T){ops:Array Oper}{l:List Oper}{d:Option Nat}{y:Operand}{v:Value}{r':RS}(hy:a.eval y=v)(hv:dj w S v r')(h:wpList P ops Q l (a.put d (.string ⟨r'.src.toArray⟩)) w):wpList P ops Q (mk d (.convert K.tSl K.tStr y)::l) a w:=by
 refine bP ?_ h
 have hr:(convert K.tSl K.tStr v).run P w=.ok (.string ⟨r'.src.toArray⟩) w:=by
  rcases hv with⟨rfl,h2,_⟩|⟨o,c,rfl,_,_,_,_,h6⟩
  ·rw[run_convert_bytes_string w K.tSl K.tStr K.tU8 none 0 0 kt.sl kt.dU8 ks.dStr,h2]
   simp[Conv.bytesToString]
   rfl
  ·exact run_convert_bytes_back w K.tSl K.tStr K.tU8 ⟨S,o,none⟩ c r'.src kt.sl kt.dU8 ks.dStr λj hj=>by
    have:=h6 j r'.src[j] (by simp[hj])
    rw[Addr.add_lit]
    exact this
 simp only[execOp,mk,hy,Sem.run_bind,hr,Result.andThen_ok,Sem.run_pure]
theorem kO {X:Nat->Prop}{nul:Option Nat}{v:Value}{x:Int}(hS:¬ X S)(h:dj w S v ⟨(cd x r).1.octets,false,(cd x r).1.isNul⟩):jD w X (.bytes nul) v.cells.toList (cd x r).1:=by
 rcases h with⟨rfl,h2,h3⟩|⟨o,c,rfl,h2,h3,h4,h5,h6⟩
 ·refine .inl ⟨rfl,?_⟩
  simp only at h3
  cases hh:(cd x r).1<;>rw[hh]at h3<;>first|rfl|cases h3
 ·refine .inr ⟨(cd x r).1.octets,S,o,c,rfl,hS,h5,h3,h4,h6,?_⟩
  simp only at h2
  have Rr:(cd x r).1=.nul \/ ∃ l,(cd x r).1=.s l:=by
   unfold cd
   split
   ·exact .inl rfl
   ·split
    ·exact .inl rfl
    ·exact .inr ⟨_,rfl⟩
  rcases Rr with hh|⟨l,hh⟩
  ·rw[hh]at h2;cases h2
  ·rw[hh];rfl
theorem na (x:Int)(hs:ep w T S R r):(cd x r).1.octets.length<=maxLen:=by
 obtain⟨v,_,hv⟩:=hs
 obtain⟨base,c,_,_,h1,h2,_⟩:=hv.len
 unfold cd
 split
 ·simp[V.octets]
 ·split
  ·simp[V.octets]
  ·simp[V.octets];omega
end
def FnIsC (P:Program)(f ntmps s t:Nat)(d:Code):Prop:=
 ∃ fn c, P.funcs[f]? = some fn /\ fn.body = some c /\ nCode c = d /\ fn.ntmps = ntmps /\ fn.results = #[ResultVar.cell s t] /\ (fn.name == "runtime.NumGoroutine") = false
theorem FnIsC.ent {P:Program}{f n s t:Nat}{d:Code}(h:FnIsC P f n s t d):Ent P f:=by
 obtain⟨fn,c,hf,hb,_,_,_,hg⟩:=h
 have Jn : ¬ fn.name = "runtime.NumGoroutine" := by simpa using hg
 intro args w
 simp[callFunc,hf,Jn,hb]
theorem FnIsC.calls {P:Program}(hm:P.follows .mixedOrders=true){f n s t:Nat}{d:Code}(h:FnIsC P f n s t d){args:Array Value}{w:World}{R:Ending->World->Prop}
  (hw:cf P d (Rt (λ_ _=>False) (λa w=>a.defers=[]/\∃ p v,a.get s=.pointer (some p)/\(loadVar t p).run P w=.ok v w/\R (.returned v) w)) { tmps:=args++Array.replicate (n-args.size) undef,defers:=[] } w):Calls P f args w R:=by
 obtain⟨fn,c,hf,hb,rfl,rfl,hr,_⟩:=h
 refine nD hm hf hb rfl (.mono hw λe a w hq=>?_)
 cases e<;>first|exact hq.elim|skip
 obtain⟨hd,p,v,hp,hl,hR⟩:=hq
 refine⟨hd,v,?_,hR⟩
 have hg:a.tmps[s]?.getD undef=.pointer (some p):=by
  have h2:a.tmps.getD s undef=.pointer (some p):=hp
  rwa [Array.getD_eq_getD_getElem?]at h2
 unfold results
 rw[hr]
 simp[hg,asAddr,hl]
def Ak (g:G)(K:Kn):List Oper:=[mk (some 4) (.slice K.tUuid (tm 3) none none none),mk (some 5) (.move (tm 0)),cl (some 6) g.span [tm 5,ki .i64 16],bi (some 7) .copy [tm 4,tm 6] [K.tSl,K.tSl] K.tInt]
def cUuid (g:G)(K:Kn):Code:=sq [rg [mk (some 2) (.alloc K.tUuid)],rg [mk (some 3) (.alloc K.tUuid)],.region 1 (Ak g K).toArray true,rg [mk (some 8) (.load K.tUuid (tm 3)),mk none (.store K.tUuid (tm 2) (tm 8))],.ret]
def cRdTags (g:G)(K:Kn):Code:=sq [rg [mk (some 2) (.alloc g.tTags)],rg [mk (some 3) (.alloc g.tTags)],.seq (rg [mk (some 7) (.move (tm 0)),cl (some 8) g.uv [tm 7],mk (some 4) (.assign (tm 8))])
 (.block 0 (.loop (.seq (.seq (rg [mk (some 9) (.move (tm 4)),mk (some 10) (.binOp .gtr K.tU32 (tm 9) (ki .u32 0) 0)]) (.cond (tm 10) .skip (.exit 0)))
  (.seq (.block 1 (.seq (rg [mk (some 13) (.move (tm 0)),cl (some 14) g.uv [tm 13],mk (some 15) (.move (tm 0)),cl (some 16) g.uv [tm 15],mk (some 5) (.assign (tm 14)),mk (some 6) (.assign (tm 16))])
   (rg [mk (some 17) (.move (tm 5)),mk (some 18) (.move (tm 0)),mk (some 19) (.move (tm 6)),mk (some 20) (.convert K.tU32 K.tInt (tm 19)),cl (some 21) g.span [tm 18,tm 20],cl (some 22) g.set [tm 3,tm 17,tm 21]])))
   (rg [mk (some 11) (.move (tm 4)),mk (some 12) (.binOp .sub K.tU32 (tm 11) (ki .u32 1) 0),mk (some 4) (.assign (tm 12))]))))),
 rg [mk (some 23) (.load g.tTags (tm 3)),mk none (.store g.tTags (tm 2) (tm 23))],.ret]
section
variable {P:Program} {g:G} {K:Kn}
theorem tu {o:Oper}{a:Act}{w w':World}{v:Value}{K':Act->World->Prop}{Q':Exit->Act->World->Prop}(h:(execOp a.eval o).run P w=.ok (.value v) w')(hn:K' (a.put o.dst v) w'):o.wp P a w K' Q':=by
 unfold Oper.wp;rw[h];exact hn
theorem nh {w:World}{dT sT ty elem:TypeId}{b o dLen dCap sLen sCap:Nat}{p:Addr}{cs:List Value}{cur:Array Value}{te:TypeId}
  (hu:P.underlying dT=some (.slice elem)) (hs:∀ w,(sizeOf elem).run P w=.ok 1 w) (hn:Nat.min sLen dLen=cs.length)
  (KP:∀ j v,cs[j]?=some v->w.cell? (p.add j)=some v) (hb:w.heap[b]?=some (.cells cur te (0,0))) (ho:o+cs.length<=cur.size) (h1:∀ v∈cs,v.oneCell'=true) :
  (Builtin.copy_ #[dT,sT] ty #[.slice (some ⟨b,o,none⟩) dLen dCap,.slice (some p) sLen sCap]).run P w=.ok (goInt cs.length) (w.setRow b (bV cur o cs)):=by
 have hl:=run_loadCells_list (P:=P) w p cs KP
 have JL:=run_storeCells_at P b o te cs 0 cur w hb (by simpa using ho) h1
 simp only[Nat.add_zero]at JL
 simp[Builtin.copy_,run_underlying hu,Builtin.lenOf,Builtin.firstCells,hs,hn,hl,JL,bV]
theorem ni {w:World}{dT sT ty elem:TypeId}{d a:Option Addr}{dLen dCap sLen sCap:Nat}(hu:P.underlying dT=some (.slice elem))(hs:∀ w,(sizeOf elem).run P w=.ok 1 w)(hn:Nat.min sLen dLen=0) :
  (Builtin.copy_ #[dT,sT] ty #[.slice d dLen dCap,.slice a sLen sCap]).run P w=.ok (goInt 0) w:=by
 have hl:∀ (x:Addr),(loadCells x 0).run P w=.ok #[] w:=λx=>by simpa using run_loadCells_list (P:=P) w x [] ab
 cases d<;>cases a<;>simp[Builtin.copy_,run_underlying hu,Builtin.lenOf,Builtin.firstCells,hs,hn,storeCells,hl]
theorem no {l:List UInt8}:∀ u∈l.map (λb=>Value.int .u8 (b.toNat:Int)),u.oneCell'=true:=by
 intro u hu
 obtain⟨b,_,rfl⟩:=aP.1 hu
 rfl
theorem oG {F p n:Nat}{w:World}{cs:List Value}(hV:cv P F true n)(hn:cs.length=n)(hb:w.heap[p]?=some (.cells cs.toArray F (0,0))):(loadVar F ⟨p,0,none⟩).run P w=.ok (.agg cs.toArray) w:=by
 have hl:=run_loadCells_list (P:=P) w ⟨p,0,none⟩ cs (λj u hj=>by
  rw[Addr.add_lit]
  simp[World.cell?,hb,hj])
 simp[loadVar,hV.agg w,hV.size w,<- hn,hl]
theorem ep.keepNl {X:Nat->Prop}{w w':World}{T S R:Nat}{r:RS}(h:ep w T S R r)(hk:br X w w')(hS:r.nl=false->¬ X S)(hR:¬ X R):ep w' T S R r:=by
 have IU:=h.lt
 obtain⟨v,hb,hs⟩:=h
 refine⟨v,by rw[hk.block R IU hR];exact hb,?_⟩
 rcases hs with hs|⟨o,c,h1,h2,h3⟩
 ·exact .inl hs
 ·exact dj.keep (.inr ⟨o,c,h1,h2,h3⟩) hk (hS h2)
theorem rdOk_uuid {T:Nat}(kt:KT P g K)(ks:KSub P g K T)(L1:cJ g.span=true)(hV:cv P K.tUuid true 16)(hz:∀ w,(zeroValue K.tUuid).run P w=.ok (.agg (Array.replicate 16 (.int .u8 0))) w)(hA:P.underlying K.tUuid=some (.array 16 K.tU8))
  {f ntmps:Nat} (hfn:FnIsC P f ntmps 2 K.tUuid (cUuid g K)) (Jg:9<=ntmps):RdOk P T .uuid f:=by
 refine⟨hfn.ent,λw S R r hR hRS=>hfn.calls kt.mixed ?_⟩
 have hsz':({ tmps:=#[pt R 0]++Array.replicate (ntmps-(#[pt R 0]:Array Value).size) undef,defers:=[] }:Act).tmps.size=ntmps:=dw #[pt R 0] ntmps (by show 1<=ntmps;omega)
 have Ke:({ tmps:=#[pt R 0]++Array.replicate (ntmps-(#[pt R 0]:Array Value).size) undef,defers:=[] }:Act).get 0=pt R 0:=by rw[db _ _ _ ab];rfl
 have KF:({ tmps:=#[pt R 0]++Array.replicate (ntmps-(#[pt R 0]:Array Value).size) undef,defers:=[] }:Act).defers=[]:=rfl
 generalize({ tmps:=#[pt R 0]++Array.replicate (ntmps-(#[pt R 0]:Array Value).size) undef,defers:=[] }:Act)=a at Ke KF hsz' ⊢
 have Vx:=hR.lt
 unfold cUuid
 refine bJ (bF (fe (hz w) (wpList_nil ?_)))
 refine bJ (bF (fe (hz _) (wpList_nil ?_)))
 let Z:Obj:=.cells (Value.agg (Array.replicate 16 (.int .u8 0))).cells K.tUuid (0,0)
 have LX:br (λ_=>False) w ((w.alloc Z).alloc Z):=(br.alloc _ _ _).trans (br.alloc _ _ _)
 have JH:((w.alloc Z).alloc Z).heap[w.heap.size]?=some Z:=by rw[cR ab];exact heap_alloc_new _ _
 have Mp:((w.alloc Z).alloc Z).heap[w.heap.size+1]?=some Z:=by
  have:=heap_alloc_new (w.alloc Z) Z
  rw[show(w.alloc Z).heap.size=w.heap.size+1 by simp]at this
  exact this
 have Rn:((w.alloc Z).alloc Z).heap.size=w.heap.size+2:=by simp
 have Wa:(w.alloc Z).heap.size=w.heap.size+1:=by simp
 show cf P _ _ ((a.put (some 2) (.pointer (some ⟨w.heap.size,0,none⟩))).put (some 3) (.pointer (some ⟨(w.alloc Z).heap.size,0,none⟩))) ((w.alloc Z).alloc Z)
 rw[Wa]
 generalize(w.alloc Z).alloc Z=w2 at LX JH Mp Rn ⊢
 have e0:((a.put (some 2) (.pointer (some ⟨w.heap.size,0,none⟩))).put (some 3) (.pointer (some ⟨w.heap.size+1,0,none⟩))).get 0=pt R 0:=by rw[b8 aa,b8 aa];exact Ke
 have e2:((a.put (some 2) (.pointer (some ⟨w.heap.size,0,none⟩))).put (some 3) (.pointer (some ⟨w.heap.size+1,0,none⟩))).get 2=pt w.heap.size 0:=by rw[b8 aa,bA aa];rfl
 have e3:((a.put (some 2) (.pointer (some ⟨w.heap.size,0,none⟩))).put (some 3) (.pointer (some ⟨w.heap.size+1,0,none⟩))).get 3=pt (w.heap.size+1) 0:=by rw[bA (by simp only[bq];omega)];rfl
 have es:((a.put (some 2) (.pointer (some ⟨w.heap.size,0,none⟩))).put (some 3) (.pointer (some ⟨w.heap.size+1,0,none⟩))).tmps.size=ntmps:=by simp only[bq];exact hsz'
 have ed:((a.put (some 2) (.pointer (some ⟨w.heap.size,0,none⟩))).put (some 3) (.pointer (some ⟨w.heap.size+1,0,none⟩))).defers=[]:=by simp only[b6];exact KF
 generalize(a.put (some 2) (.pointer (some ⟨w.heap.size,0,none⟩))).put (some 3) (.pointer (some ⟨w.heap.size+1,0,none⟩))=a2 at e0 e2 e3 es ed ⊢
 have Kr:ep w2 T S R r:=hR.keep LX id id
 have Kh:fo (Ak g K)=[false,false,true,true]:=by kernel_rfl
 let res:List UInt8:=if r.src.length<16 then List.replicate 16 0 else r.src.take 16
 have Nn:res.length=16:=by
  show(if r.src.length<16 then List.replicate 16 (0:UInt8)else r.src.take 16).length=16
  split<;>simp<;>omega
 refine bJ (.mono (R:=Rt (λa' w'=>a'.get 2=pt w.heap.size 0/\a'.get 3=pt (w.heap.size+1) 0/\a'.tmps.size=ntmps/\a'.defers=[]/\ep w' T S R (PF.run .uuid r).2/\br (·=R) w w'/\w'.heap[w.heap.size]?=some Z /\
   w'.heap[w.heap.size+1]?=some (.cells (res.map λb=>.int .u8 (b.toNat:Int)).toArray K.tUuid (0,0))/\w.heap.size+2<=w'.heap.size) λ_ _=>False) ?_ λe a5 w5 hq=>?_)
 ·refine .drw (λ_=>True) ?_
  rw[Kh]
  show iR P _ [mk (some 4) (.slice K.tUuid (tm 3) none none none),mk (some 5) (.move (tm 0))] a2 λaf=>gF P _ _ [cl (some 6) g.span [tm 5,ki .i64 16],bi (some 7) .copy [tm 4,tm 6] [K.tSl,K.tSl] K.tInt] af w2.drew
  refine⟨.slice (some ⟨w.heap.size+1,0,none⟩) 16 16,λw' _=>?_,?_⟩
  ·have e3':a2.eval (tm 3)=.pointer (some ⟨w.heap.size+1,0,none⟩):=e3
   simp[execOp,mk,e3',Instr.sliceAt,run_underlying hA,Instr.sureAddr,Instr.sliceBounds,kt.u8.size w',Addr.add_lit]
  refine⟨pt R 0,λw' _=>?_,⟨trivial,?_⟩⟩
  ·have:(a2.put (some 4) (.slice (some ⟨w.heap.size+1,0,none⟩) 16 16)).eval (tm 0)=pt R 0:=by rw[bp,b8 aa];exact e0
   exact congrArg (λv=>Result.ok (Next.value v) w') this
  ·have Km:br (λ_=>False) w2 w2.drew:=br.drew _ _
   refine iV (vs:=#[pt R 0,.int .i64 16]) rfl (ks.eS L1) ?_ (ks.cS L1 w2.drew S R r 16 (Kr.keep Km id id) hRS) λe w3 hR3=>?_
   ·have h5:=fh (a2.put (some 4) (.slice (some ⟨w.heap.size+1,0,none⟩) 16 16)) 5 (pt R 0) (by simp only[bq];omega)
    exact congrArg (λv=>#[v,Value.int .i64 16]) h5
   obtain⟨v,he,JQ,IZ,hv⟩:=hR3
   refine⟨v,he,trivial,?_⟩
   have Kd:br (·=R) w w3:=(LX.mono λ_ _ h=>h.elim).trans ((Km.mono λ_ _ h=>h.elim).trans IZ)
   have QZ:=IZ.size
   have SG:w2.drew.heap.size=w2.heap.size:=rfl
   have U6:w3.heap[w.heap.size]?=some Z:=by rw[IZ.block _ aa aa];exact JH
   have NR:w3.heap[w.heap.size+1]?=some Z:=by rw[IZ.block _ aa aa];exact Mp
   have g2:(((a2.put (some 4) (.slice (some ⟨w.heap.size+1,0,none⟩) 16 16)).put (some 5) (pt R 0)).put (some 6) v).get 2=pt w.heap.size 0:=by rw[b8 aa,b8 aa,b8 aa];exact e2
   have g3:(((a2.put (some 4) (.slice (some ⟨w.heap.size+1,0,none⟩) 16 16)).put (some 5) (pt R 0)).put (some 6) v).get 3=pt (w.heap.size+1) 0:=by rw[b8 aa,b8 aa,b8 aa];exact e3
   have g4:(((a2.put (some 4) (.slice (some ⟨w.heap.size+1,0,none⟩) 16 16)).put (some 5) (pt R 0)).put (some 6) v).eval (tm 4)=.slice (some ⟨w.heap.size+1,0,none⟩) 16 16:=by rw[bp,b8 aa,b8 aa,bA aa]
   have g6:(((a2.put (some 4) (.slice (some ⟨w.heap.size+1,0,none⟩) 16 16)).put (some 5) (pt R 0)).put (some 6) v).eval (tm 6)=v:=by rw[bp,bA (by simp only[bq];omega)]
   have Jl:∀ (x:Value) (w':World),(Builtin.copy_ #[K.tSl,K.tSl] K.tInt #[.slice (some ⟨w.heap.size+1,0,none⟩) 16 16,v]).run P w3=.ok x w' ->
     (execOp (((a2.put (some 4) (.slice (some ⟨w.heap.size+1,0,none⟩) 16 16)).put (some 5) (pt R 0)).put (some 6) v).eval (bi (some 7) .copy [tm 4,tm 6] [K.tSl,K.tSl] K.tInt)).run P w3=.ok (.value x) w':=by
    intro x w' hx
    simp[execOp,bi,resolve,invoke,g4,g6,builtin,hx]
   by_cases IU:r.src.length<16
   ·-- too few
    have Rr:cd 16 r=(.nul,.fail):=by simp only[cd];rw[ax (.inl aa)]
    rw[Rr]at hv JQ
    have OW:res=List.replicate 16 0:=ax IU
    have N3:∃ d c,v=.slice d 0 c:=by
     rcases hv with⟨rfl,_⟩|⟨o,c,hv,hn,_⟩
     ·exact⟨_,_,rfl⟩
     ·exact⟨_,c,hv⟩
    obtain⟨d,c,rfl⟩:=N3
    refine tu (Jl _ _ (ni kt.sl kt.u8.size ab)) ⟨trivial,?_⟩
    refine⟨?_,?_,?_,?_,?_,Kd,U6,?_,by omega⟩
    ·show Act.get (Act.put _ (some 7) _) 2=_
     rw[b8 aa];exact g2
    ·show Act.get (Act.put _ (some 7) _) 3=_
     rw[b8 aa];exact g3
    ·simp only[bq];exact es
    ·simp only[b6];exact ed
    ·simp only[PF.run];rw[ax IU];exact JQ
    ·rw[NR,OW]
     rfl
   ·have W4:r.nl=false/\S<w.heap.size:=by
     obtain⟨vv,_,hs⟩:=hR
     rcases hs with⟨_,h2,_⟩|⟨_,_,_,h2,_,_,h3,_⟩
     ·rw[h2]at IU;simp at IU
     ·exact⟨h2,h3⟩
    obtain⟨JB,XS⟩:=W4
    have Rr:cd 16 r=(.s (r.src.take 16),⟨r.src.drop 16,r.bad,r.nl⟩):=by
     simp only[cd];rw[al aa,JB];rfl
    rw[Rr]at hv JQ
    have OW:res=r.src.take 16:=al IU
    have L9:(r.src.take 16).length=16:=by simp;omega
    rcases hv with⟨rfl,h2,_⟩|⟨o,c,rfl,_,_,_,_,Lo⟩
    ·simp only[V.octets]at h2;rw[h2]at L9;simp at L9
    ·simp only[V.octets]at Lo
     have Js:∀ j u,((r.src.take 16).map λb=>Value.int .u8 (b.toNat:Int))[j]?=some u->w3.cell? ((⟨S,o,none⟩:Addr).add j)=some u:=by
      intro j u hj
      rw[Addr.add_lit]
      simp only[aD,aK]at hj
      obtain⟨b,hb,rfl⟩:=hj
      exact Lo j b hb
     have Jq:=nh (P:=P) (dT:=K.tSl) (sT:=K.tSl) (ty:=K.tInt) (o:=0) (dLen:=16) (dCap:=16) (sLen:=(r.src.take 16).length) (sCap:=c) kt.sl kt.u8.size (by rw[aJ,L9];rfl) Js NR (by rw[aJ,L9];simp[Value.cells]) no
     have Jm:br (·=w.heap.size+1) w3 (w3.setRow (w.heap.size+1) (bV (Value.agg (Array.replicate 16 (.int .u8 0))).cells 0 ((r.src.take 16).map λb=>Value.int .u8 (b.toNat:Int)))):=br.setRow _ _ _ _ rfl
     refine tu (Jl _ _ Jq) ⟨trivial,?_⟩
     refine⟨?_,?_,?_,?_,?_,?_,?_,?_,?_⟩
     ·show Act.get (Act.put _ (some 7) _) 2=_
      rw[b8 aa];exact g2
     ·show Act.get (Act.put _ (some 7) _) 3=_
      rw[b8 aa];exact g3
     ·simp only[bq];exact es
     ·simp only[b6];exact ed
     ·simp only[PF.run];rw[al IU];exact JQ.keep Jm aa aa
     ·refine⟨Jm.os.trans Kd.os,Jm.tape.trans Kd.tape,Jm.output.trans Kd.output,by have:=Jm.size;omega,λi hi hx=>?_⟩
      rw[Jm.block i aa aa,Kd.block i hi hx]
     ·rw[Jm.block _ aa aa];exact U6
     ·rw[setRow_heap _ _ _ _ _ _ NR,OW,fL (by rw[aJ,L9];simp[Value.cells])]
     ·have:=Jm.size;omega
 ·cases e<;>first|exact hq.elim|skip
  obtain⟨h2,h3,hs,hd,LV,hk,Qv,Sk,P2⟩:=hq
  refine bJ (bF ?_)
  have L9:((res.map λb=>Value.int .u8 (b.toNat:Int))).length=16:=by rw[aJ];exact Nn
  refine gN (b:=_) (o:=0) (cs:=res.map λb=>Value.int .u8 (b.toNat:Int)) (by rw[bp];exact h3) (hV.agg _) (by rw[L9];exact hV.size _) ?_ ?_
  ·intro j v hj
   simp only[World.cell?,Sk,aN,aQ]
   simp[hj]
  refine cK (g:=_) (o:=0) (cur:=(Value.agg (Array.replicate 16 (.int .u8 0))).cells) (t:=K.tUuid) (vs:=res.map λb=>Value.int .u8 (b.toNat:Int)) (by rw[bp,b8 aa];exact h2) (by rw[bp,bA aa]) rfl (by rw[L9];exact hV.size _) Qv (by rw[L9];simp[Value.cells]) no (wpList_nil ?_)
  refine bJ (.ret ?_)
  have Jm:br (·=w.heap.size) w5 (w5.setRow w.heap.size (bV (Value.agg (Array.replicate 16 (.int .u8 0))).cells 0 (res.map λb=>Value.int .u8 (b.toNat:Int)))):=br.setRow _ _ _ _ rfl
  have Vs:=setRow_heap w5 _ _ (bV (Value.agg (Array.replicate 16 (.int .u8 0))).cells 0 (res.map λb=>Value.int .u8 (b.toNat:Int))) _ _ Qv
  rw[fL (by rw[L9];simp[Value.cells])]at Jm Vs ⊢
  refine⟨by simp only[b6];exact hd,⟨w.heap.size,0,none⟩,_,by rw[b8 aa];exact h2,oG hV L9 Vs,_,rfl,LV.keepNl Jm (λJB hS=>?_) aa,?_,?_⟩
  ·simp only[PF.run]at JB
   split at JB
   ·cases JB
   ·obtain⟨vv,_,Mh⟩:=hR
    rcases Mh with⟨_,_,h7⟩|⟨_,_,_,_,_,_,h3,_⟩
    ·rw[h7]at JB;cases JB
    ·omega
  ·refine⟨Jm.os.trans hk.os,Jm.tape.trans hk.tape,Jm.output.trans hk.output,by have:=Jm.size;omega,λi hi hx=>?_⟩
   rw[Jm.block i aa aa,hk.block i hi hx]
  ·intro X _ _
   refine⟨res,Nn,by simp[Value.cells],?_⟩
   show(PF.run .uuid r).1=.s res
   simp only[PF.run]
   by_cases IU:r.src.length<16
   ·rw[ax IU];exact congrArg V.s (ax IU).symm
   ·rw[al IU];exact congrArg V.s (al IU).symm
end
def qz (K:Kn)(i n:Nat):List Oper:=[mk (some n) (.move (tm 0)),mk (some (n+1)) (.indexAddr K.tSl (tm n) (ki .i64 i)),mk (some (n+2)) (.load K.tU8 (tm (n+1)))]
def rM (K:Kn)(k:Nat):GC:=gb 2 3 (λn=>[mk (some n) (.move (tm 0)),bi (some (n+1)) .len [tm n] [K.tSl] K.tInt,mk (some (n+2)) (.binOp .lss K.tInt (tm (n+1)) (ki .i64 k) 0)]) (cp (.goto 0)) cY
def vD (K:Kn):GC:=bL 5 λn=>qz K 0 n++[mk (some (n+3)) (.binOp .and K.tU8 (tm (n+2)) (ki .u8 127) 0),mk (some (n+4)) (.convert K.tU8 K.tU32 (tm (n+3))),mk (some 4) (.assign (tm (n+4)))]
def CL (i:Nat):GC:=gS [bL 1 λn=>[mk (some n) (.move (tm 4)),mk (some 2) (.assign (tm n)),mk (some 3) (.assign (ki .i64 i))],cp .ret]
def mY (K:Kn)(i:Nat):GC:=gb 4 5 (λn=>qz K i n++[mk (some (n+3)) (.binOp .and K.tU8 (tm (n+2)) (ki .u8 128) 0),mk (some (n+4)) (.binOp .eql K.tU8 (tm (n+3)) (ki .u8 0) 0)]) (CL (i+1)) (rM K (i+2))
def pz (K:Kn)(i s:Nat):GC:=bL 8 λn=>mk (some n) (.move (tm 4))::(qz K i (n+1)++[mk (some (n+4)) (.binOp .and K.tU8 (tm (n+3)) (ki .u8 127) 0),mk (some (n+5)) (.convert K.tU8 K.tU32 (tm (n+4))),mk (some (n+6)) (.binOp .shl K.tU32 (tm (n+5)) (ki .u64 s) 0),mk (some (n+7)) (.binOp .or K.tU32 (tm n) (tm (n+6)) 0),mk (some 4) (.assign (tm (n+7)))])
def Ao (K:Kn):GC:=bL 7 λn=>mk (some n) (.move (tm 4))::(qz K 4 (n+1)++[mk (some (n+4)) (.convert K.tU8 K.tU32 (tm (n+3))),mk (some (n+5)) (.binOp .shl K.tU32 (tm (n+4)) (ki .u64 28) 0),mk (some (n+6)) (.binOp .or K.tU32 (tm n) (tm (n+5)) 0),mk (some 4) (.assign (tm (n+6)))])
def E9 (K:Kn):GC:=gb 3 4 (λn=>qz K 4 n++[mk (some (n+3)) (.binOp .leq K.tU8 (tm (n+2)) (ki .u8 15) 0)]) (CL 5) cY
def EA (K:Kn):List GC:=[co 4 (.int .u32 0),co 5 (.int .i64 0),rM K 1,vD K,mY K 0,pz K 1 7,mY K 1,pz K 2 14,mY K 2,pz K 3 21,mY K 3,Ao K,E9 K,co 5 (.int .i64 (-5)),cp (.label 0),
 bL 1 λn=>[mk (some n) (.move (tm 5)),mk (some 2) (.assign (ki .u32 0)),mk (some 3) (.assign (tm n))],cp .ret]
def cUvIn (K:Kn):Code:=.seq (rg [mk (some 2) (.assign (ki .u32 0)),mk (some 3) (.assign (ki .i64 0))]) (.scope (sq (gL (EA K) 6).1))
def cUv (K:Kn):Code:=(gS [co 2 (.int .u32 0),
 bL 7 λn=>jV K 0 n++[cl (some (n+4)) K.fUv [tm (n+3)],mk (some 5) (.move (tm (n+4))),mk (some (n+5)) (.extract (tm 5) 0),mk (some (n+6)) (.extract (tm 5) 1),mk (some 3) (.assign (tm (n+5))),mk (some 4) (.assign (tm (n+6)))],
 gb 1 2 (λn=>[mk (some n) (.move (tm 4)),mk (some (n+1)) (.binOp .leq K.tInt (tm n) (ki .i64 0) 0)]) (uO K (.int .u32 0)) cY,o8 K 4,dg 3 2,cp .ret] 6).1
