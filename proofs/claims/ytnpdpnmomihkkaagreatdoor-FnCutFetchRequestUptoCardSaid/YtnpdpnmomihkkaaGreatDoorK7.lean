/- messages, part 7 -/
import Derived.Test.YtnpdpnmomihkkaaGreatDoorK6
import Derived.KernelRfl

namespace Go.Proofs.YtnpdpnmomihkkaaGreatDoor.Kx
open Go
section
variable {P:Program} {g:G} {K:Kn} {T:Nat}
theorem jl (hm:P.follows .mixedOrders=true){f ntmps n0:Nat}{l:List GC}{y:Value}{w:World}{RR:Ending->World->Prop}(hfn:FnIs P f ntmps [2] (gS l n0).1)(Jg:1<=ntmps)
  (h:∀ a,a.get 0=y->a.tmps.size=ntmps->a.defers=[]->LW P l n0 (Rt (λ_ _=>False) (λa' w'=>a'.defers=[]/\RR (.returned (a'.get 2)) w')) a w):Calls P f #[y] w RR:=by
 refine hfn.calls hm ab ?_
 have:=h { tmps:=#[y]++Array.replicate (ntmps-(#[y]:Array Value).size) undef,defers:=[] } (by rw[db _ _ _ ab];rfl) (dw #[y] ntmps Jg) rfl
 exact lV (cC this) (λ_ _ h=>h.elim) (λa w h=>⟨h.1,h.2⟩)
theorem g9 {x n:Nat}{a a':Act}{v:Value}(hp:Pv x 0 0 n a a')(h:a.get 0=v)(hx:0≠x)(hn:0<n):a'.get 0=v:=(hp.get 0 hx (.inr ⟨ae _,hn⟩)).trans h
theorem lA {r:RS}{k:Nat}(hk:k=2 \/ k=4):-2147483648<=(rI k r).1/\(rI k r).1<2147483648:=by
 by_cases IU:r.src.length<k
 ·rw[u5 IU]
  rcases hk with rfl|rfl<;>simp[lr]
 ·have h:=mX (show k<=r.src.length by omega)
  rw[xN (show k<=r.src.length by omega)]
  rcases hk with rfl|rfl
  ·simp only[lr];split<;>rename_i h2<;>simp at h h2 ⊢<;>omega
  ·simp only[lr];split<;>rename_i h2<;>simp at h h2 ⊢<;>omega
theorem rdOk_str (kt:KT P g K)(ks:KSub P g K T)(P0:cJ (g.rd .i16)=true)(L1:cJ g.span=true){f ntmps:Nat}(hfn:FnIs P f ntmps [2] (cStr g K))(Jg:11<=ntmps):RdOk P T .str f:=by
 refine⟨hfn.ent,λw S R r hR hRS=>jl kt.mixed hfn aa λa h0 hs hd=>?_⟩
 refine bt (eW (x:=2) (m:=0) (k0:=0) (.inl rfl) aa λa1 IP _=>?_)
 have IX:=IP.size
 rw[show(co 2 (.string ⟨#[]⟩) 4).2=4 from rfl]
 refine bt (uL (r':=(rI 2 r).2) (ks.e16 P0) (ks.c16 P0 w S R r hR hRS) (g9 IP h0 aa aa) aa aa λa2 w2 IR Ja Jt IV=>?_)
 have Jr:=IR.size
 rw[show(pY (g.rd .i16) 4).2=6 from rfl]
 refine bt (bF (mI ks L1 (.inl rfl) kt.dI16 kt.dInt (lA (.inl rfl)) (g9 IR (g9 IP h0 aa aa) aa aa) Ja Jt hRS aa aa λa3 w3 v IW Jw JQ IZ O4=>?_))
 have JI:=IW.size
 refine lg kt ks (by rw[bp];exact Jw) O4 (b7 (wpList_nil (bt (.ret ⟨?_,?_⟩))))
 ·simp only[b6];rw[IW.defers,IR.defers,IP.defers];exact hd
 ·rw[bA (by simp only[bq];omega),bp,bA aa]
  have IT:=na (rI 2 r).1 Jt
  exact⟨_,rfl,JQ,IV.trans IZ,λX _ _=>⟨_,rfl,rfl,IT⟩⟩
theorem sI (_kt:KT P g K)(ks:KSub P g K T)(M2:cJ g.uv=true){w:World}{S R n:Nat}{r:RS}{a:Act}{KK:Act->World->Prop}{Q:Exit->Act->World->Prop}{A B:Nat}{k:IntKind}(hR:ep w T S R r)(hRS:S≠R)(hA:P.underlying A=some (.int .u32))(hB:P.underlying B=some (.int k))(h0:a.get 0=pt R 0)(hn:n+4<=a.tmps.size)(QY:3<n)
  (h:∀ a' w',Pv 3 0 0 n a a'->a'.get 3=.int k (k.wrap (k.wrap ((bZ r).1:Int)-1))->ep w' T S R (bZ r).2->br (·=R) w w'->KK a' w'):cf P (nv g A B k n).1 (Exit.then KK Q) a w:=by
 refine bF (bv ?_)
 rw[bp,h0]
 refine cj (vs:=#[pt R 0]) (ks.eU M2) (by simp[bp,bA (show n<a.tmps.size by omega)]) (ks.cU M2 w S R r hR hRS) λe w' Kr=>⟨_,Kr.1,?_⟩
 refine ci (k:=.u32) (k':=k) (by rw[bp,bA (by simp only[bq];omega)]) hA hB ?_
 refine ee (k:=k) (m:=k.wrap ((bZ r).1:Int)) (n:=1) (v:=.int k (k.wrap (k.wrap ((bZ r).1:Int)-1))) (by rw[bp,bA (by simp only[bq];omega)]) rfl ab (by simp[binOp,Op.intArith]) (b7 (wpList_nil ?_))
 rw[bp,bA (by simp only[bq];omega)]
 exact h _ w' ((((((Pv.refl _ _ _ _ _).put _ aa).put _ aa).put _ aa).put _ aa).put _ aa) (bA (by simp only[bq];omega)) Kr.2.1 Kr.2.2
theorem vu (r:RS):IntKind.i64.wrap (IntKind.i64.wrap ((bZ r).1:Int)-1)=((bZ r).1:Int)-1:=by
 have h:=l9 r
 simp[IntKind.wrap,IntKind.bits,IntKind.signed]
 omega
theorem E5 (r:RS):IntKind.i32.wrap (IntKind.i32.wrap ((bZ r).1:Int)-1)=eB (eB (bZ r).1-1):=by
 have hw:∀ x:Int,IntKind.i32.wrap x=eB x:=by
  intro x
  simp[IntKind.wrap,IntKind.bits,IntKind.signed,eB]
  split<;>omega
 rw[hw,hw]
theorem BK {w:World}{n TT:Nat}{k:IntKind}{x:Int}{z:Value}{a:Act}{KK E:Act->World->Prop}(h3:a.get 3=.int k x)(hn:n+2<=a.tmps.size)(QY:3<n)
  (J5:x<0->∀ a',a'.defers=a.defers->a'.get 2=z->E a' w) (Ki:¬ x<0->∀ a',Pv n 0 0 n a a'->KK a' w):cf P (wP TT k z n).1 (Rt KK E) a w:=by
 have key:∀ (b:Bool) (K':Act->World->Prop) (Q':Exit->Act->World->Prop),b=decide (x<0)->(∀ a',a'.eval (tm (n+1))=.bool b->Pv n 0 0 n a a'->K' a' w) ->
   wpList P [mk (some n) (.move (tm 3)),mk (some (n+1)) (.binOp .lss TT (tm n) (ki k 0) 0)].toArray (Exit.then K' Q') [mk (some n) (.move (tm 3)),mk (some (n+1)) (.binOp .lss TT (tm n) (ki k 0) 0)] a w:=by
  intro b K' Q' hb hK
  refine bv ?_
  rw[bp,h3]
  refine cZ (b:=b) (p:=x) (q:=0) (k:=k) (by rw[bp,bA aa]) rfl (.inr (.inr (.inl ⟨rfl,hb⟩))) (wpList_nil (hK _ ?_ (((Pv.refl _ _ _ _ _).put _ aa).put _ aa)))
  rw[bp,bA (by simp only[bq];omega)]
 by_cases hx:x<0
 ·refine eX (key true _ _ (by simp[hx]) λa' he hp=>⟨he,?_⟩)
  have hs:=hp.size
  exact cC (bt (eW (x:=2) (m:=0) (k0:=0) (.inl rfl) aa λa2 IR Ja=>bt (.ret (J5 hx a2 (IR.defers.trans hp.defers) Ja))))
 ·exact eK (key false _ _ (by simp;omega) λa' he hp=>⟨he,.skip (Ki hx a' hp)⟩)
theorem Ek (kt:KT P g K){w:World}{n TT:Nat}{k:IntKind}{x:Int}{a:Act}{KK E:Act->World->Prop}(h3:a.get 3=.int k x)(hn:n+3<=a.tmps.size)(QY:3<n)
  (J5:x=-1->∀ a',a'.defers=a.defers->a'.get 2=.slice (some ⟨w.heap.size,0,none⟩) 0 0->E a' (w.alloc (.cells #[] K.tU8 (0,0)))) (Ki:¬ x=-1->∀ a',Pv n 0 0 n a a'->KK a' w):cf P (BO K TT k n).1 (Rt KK E) a w:=by
 have key:∀ (b:Bool) (K':Act->World->Prop) (Q':Exit->Act->World->Prop),b=decide (x=-1)->(∀ a',a'.eval (tm (n+1))=.bool b->Pv n 0 0 n a a'->K' a' w) ->
   wpList P [mk (some n) (.move (tm 3)),mk (some (n+1)) (.binOp .eql TT (tm n) (ki k (-1)) 0)].toArray (Exit.then K' Q') [mk (some n) (.move (tm 3)),mk (some (n+1)) (.binOp .eql TT (tm n) (ki k (-1)) 0)] a w:=by
  intro b K' Q' hb hK
  refine bv ?_
  rw[bp,h3]
  refine cZ (b:=b) (p:=x) (q:=-1) (k:=k) (by rw[bp,bA aa]) rfl (.inr (.inr (.inr (.inr (.inl ⟨rfl,hb⟩))))) (wpList_nil (hK _ ?_ (((Pv.refl _ _ _ _ _).put _ aa).put _ aa)))
  rw[bp,bA (by simp only[bq];omega)]
 by_cases hx:x=-1
 ·refine eX (key true _ _ (by simp[hx]) λa' he hp=>⟨he,?_⟩)
  have hs:=hp.size
  refine cC (bt (bF (lh kt.sl kt.u8.size (b7 (wpList_nil (bt (.ret (J5 hx _ ?_ ?_))))))))
  ·simp only[b6];exact hp.defers
  ·rw[bA (by simp only[bq];omega),bp,bA aa]
 ·exact eK (key false _ _ (by simp[hx]) λa' he hp=>⟨he,.skip (Ki hx a' hp)⟩)
theorem rdOk_cstr (kt:KT P g K)(ks:KSub P g K T)(M2:cJ g.uv=true)(L1:cJ g.span=true){f ntmps:Nat}(hfn:FnIs P f ntmps [2] (cCStr g K))(Jg:12<=ntmps):RdOk P T .cstr f:=by
 refine⟨hfn.ent,λw S R r hR hRS=>jl kt.mixed hfn aa λa h0 hs hd=>?_⟩
 refine bt (eW (x:=2) (m:=0) (k0:=0) (.inl rfl) aa λa1 IP _=>?_)
 have IX:=IP.size
 rw[show(co 2 (.string ⟨#[]⟩) 4).2=4 from rfl]
 refine bt (sI kt ks M2 hR hRS kt.dU32 kt.dInt (g9 IP h0 aa aa) aa aa λa2 w2 IR Ja Jt IV=>?_)
 rw[vu]at Ja
 have Jr:=IR.size
 rw[show(nv g K.tU32 K.tInt .i64 4).2=8 from rfl]
 refine bt (bF (pn ks L1 (g9 IR (g9 IP h0 aa aa) aa aa) Ja Jt hRS aa aa λa3 w3 v IW Jw JQ IZ O4=>?_))
 have JI:=IW.size
 refine lg kt ks (by rw[bp];exact Jw) O4 (b7 (wpList_nil (bt (.ret ⟨?_,?_⟩))))
 ·simp only[b6];rw[IW.defers,IR.defers,IP.defers];exact hd
 ·rw[bA (by simp only[bq];omega),bp,bA aa]
  have IT:=na ((bZ r).1-1) Jt
  exact⟨_,rfl,JQ,IV.trans IZ,λX _ _=>⟨_,rfl,rfl,IT⟩⟩
theorem uN (kt:KT P g K)(ks:KSub P g K T){w:World}{S m:Nat}{v:Value}{r':RS}{a:Act}{KK:Act->World->Prop}{Q:Exit->Act->World->Prop}{ops:Array Oper}{y:Nat}(hy:a.get y=v)(hv:dj w S v r')(hm:m<a.tmps.size)(hm4:4<m)
  (h:∀ a' w',a'.defers=a.defers->a'.tmps.size=a.tmps.size->a'.get 4=pt w.heap.size 0->br (λ_=>False) w w'->w'.cell? ⟨w.heap.size,0,none⟩=some (.string ⟨r'.src.toArray⟩)->KK a' w') :
  wpList P ops (Exit.then KK Q) [mk (some m) (.convert K.tSl K.tStr (tm y)),mk (some 4) (.alloc K.tStr),mk none (.store K.tStr (tm 4) (tm m))] a w:=by
 refine lg kt ks (by rw[bp];exact hy) hv ?_
 refine fe (ks.zStr w) ?_
 have Lp:(w.alloc (.cells (Value.string ⟨#[]⟩).cells K.tStr (0,0))).heap[w.heap.size]?=some (.cells #[.string ⟨#[]⟩] K.tStr (0,0)):=heap_alloc_new _ _
 refine cK (g:=w.heap.size) (o:=0) (cur:=#[.string ⟨#[]⟩]) (t:=K.tStr) (v:=.string ⟨r'.src.toArray⟩) (vs:=[.string ⟨r'.src.toArray⟩]) (by rw[bp,bA (by simp only[bq];omega)]) (by rw[bp,b8 aa,bA aa]) rfl (ks.vStr.size _) Lp ab (λu hu=>by simp at hu;rw[hu];rfl) (wpList_nil ?_)
 refine h _ _ (by simp only[b6]) (by simp only[bq]) (bA (by simp only[bq];omega)) (fT _ _ _ _) ?_
 rw[cell_setRow_same _ _ _ _ _ _ _ Lp]
 have:=dn (cur:=#[Value.string ⟨#[]⟩]) (o:=0) (vs:=[Value.string ⟨r'.src.toArray⟩]) ab 0 ab
 simpa using this
theorem rdOk_nstr (kt:KT P g K)(ks:KSub P g K T)(P0:cJ (g.rd .i16)=true)(L1:cJ g.span=true){f ntmps:Nat}(hfn:FnIs P f ntmps [2] (cNStr g K))(Jg:14<=ntmps):RdOk P T .nstr f:=by
 refine⟨hfn.ent,λw S R r hR hRS=>jl kt.mixed hfn aa λa h0 hs hd=>?_⟩
 refine bt (eW (x:=2) (m:=0) (k0:=0) (.inl rfl) aa λa1 IP _=>?_)
 have IX:=IP.size
 rw[show(co 2 (.pointer none) 5).2=5 from rfl]
 refine bt (uL (r':=(rI 2 r).2) (ks.e16 P0) (ks.c16 P0 w S R r hR hRS) (g9 IP h0 aa aa) aa aa λa2 w2 IR Ja Jt IV=>?_)
 have Jr:=IR.size
 rw[show(pY (g.rd .i16) 5).2=7 from rfl]
 have JW:a2.defers=[]:=by rw[IR.defers,IP.defers];exact hd
 refine bt ?_
 rw[cn]
 refine BK Ja aa aa (λhx a' hd' Jn=>⟨hd'.trans JW,?_⟩) (λhx a3 IW=>?_)
 ·rw[Jn]
  have Jl:PF.run .nstr r=(.nul,(rI 2 r).2):=by simp[PF.run,hx]
  rw[Jl]
  exact⟨_,rfl,Jt,IV,λX _ _=>.inl ⟨rfl,rfl⟩⟩
 ·have JI:=IW.size
  have Jl:PF.run .nstr r=i6 (rI 2 r).1 (rI 2 r).2:=by simp[PF.run,hx]
  rw[Jl]
  rw[show(wP K.tI16 .i16 (.pointer none) 7).2=9 from rfl]
  have P1:a3.get 0=pt R 0:=g9 IW (g9 IR (g9 IP h0 aa aa) aa aa) aa aa
  refine bt (bF (mI ks L1 (.inl rfl) kt.dI16 kt.dInt (lA (.inl rfl)) P1 ((IW.get 3 aa (.inr ⟨by omega,by omega⟩)).trans Ja) Jt hRS aa aa λa4 w4 v Jp JS JP Jm NX=>?_))
  have L3:=Jp.size
  refine uN kt ks JS NX aa aa λa5 w5 N7 OV Lj JZ U2=>?_
  have IT:=na (rI 2 r).1 Jt
  have Jc:w.heap.size<=w4.heap.size:=am IV.size Jm.size
  refine bt (bF (b7 (wpList_nil (bt (.ret ⟨?_,?_⟩)))))
  ·simp only[b6];rw[N7,Jp.defers,IW.defers];exact JW
  ·rw[bA aa,bp,Lj]
   refine⟨_,rfl,JP.keep JZ id id,(IV.trans Jm).trans (JZ.mono λ_ _ h=>h.elim),λX hX hS=>.inr ⟨_,w4.heap.size,0,rfl,λh=>?_,U2,rfl,IT⟩⟩
   have:=hX _ h
   omega
theorem rdOk_cnstr (kt:KT P g K)(ks:KSub P g K T)(M2:cJ g.uv=true)(L1:cJ g.span=true){f ntmps:Nat}(hfn:FnIs P f ntmps [2] (cCNStr g K))(Jg:15<=ntmps):RdOk P T .cnstr f:=by
 refine⟨hfn.ent,λw S R r hR hRS=>jl kt.mixed hfn aa λa h0 hs hd=>?_⟩
 refine bt (eW (x:=2) (m:=0) (k0:=0) (.inl rfl) aa λa1 IP _=>?_)
 have IX:=IP.size
 rw[show(co 2 (.pointer none) 5).2=5 from rfl]
 refine bt (sI kt ks M2 hR hRS kt.dU32 kt.dInt (g9 IP h0 aa aa) aa aa λa2 w2 IR Ja Jt IV=>?_)
 rw[vu]at Ja
 have Jr:=IR.size
 rw[show(nv g K.tU32 K.tInt .i64 5).2=9 from rfl]
 have JW:a2.defers=[]:=by rw[IR.defers,IP.defers];exact hd
 refine bt ?_
 rw[cn]
 refine BK Ja aa aa (λhx a' hd' Jn=>⟨hd'.trans JW,?_⟩) (λhx a3 IW=>?_)
 ·rw[Jn]
  have Jl:PF.run .cnstr r=(.nul,(bZ r).2):=by simp only[PF.run,hx,aw]
  rw[Jl]
  exact⟨_,rfl,Jt,IV,λX _ _=>.inl ⟨rfl,rfl⟩⟩
 ·have JI:=IW.size
  have Jl:PF.run .cnstr r=i6 ((bZ r).1-1:Int) (bZ r).2:=by simp only[PF.run,hx,ak]
  rw[Jl]
  rw[show(wP K.tInt .i64 (.pointer none) 9).2=11 from rfl]
  have P1:a3.get 0=pt R 0:=g9 IW (g9 IR (g9 IP h0 aa aa) aa aa) aa aa
  refine bt (bF (pn ks L1 P1 ((IW.get 3 aa (.inr ⟨by omega,by omega⟩)).trans Ja) Jt hRS aa aa λa4 w4 v Jp JS JP Jm NX=>?_))
  have L3:=Jp.size
  refine uN kt ks JS NX aa aa λa5 w5 N7 OV Lj JZ U2=>?_
  have IT:=na ((bZ r).1-1) Jt
  have Jc:w.heap.size<=w4.heap.size:=am IV.size Jm.size
  refine bt (bF (b7 (wpList_nil (bt (.ret ⟨?_,?_⟩)))))
  ·simp only[b6];rw[N7,Jp.defers,IW.defers];exact JW
  ·rw[bA aa,bp,Lj]
   refine⟨_,rfl,JP.keep JZ id id,(IV.trans Jm).trans (JZ.mono λ_ _ h=>h.elim),λX hX hS=>.inr ⟨_,w4.heap.size,0,rfl,λh=>?_,U2,rfl,IT⟩⟩
   have:=hX _ h
   omega
end
def pZ (K:Kn):GC:=gb 7 8 (λn=>jV K 0 n++[bi (some (n+4)) .len [tm (n+3)] [K.tSl] K.tInt,mk (some (n+5)) (.move (tm 3)),mk (some (n+6)) (.convert K.tI32 K.tInt (tm (n+5))),mk (some (n+7)) (.binOp .lss K.tInt (tm (n+4)) (tm (n+6)) 0)]) (uO K (.int .i32 0)) cY
def cLen (g:G)(K:Kn):Code:=(gS [co 2 (.int .i32 0),pY (g.rd .i32),pZ K,dg 3 2,cp .ret] 4).1
def cCLen (g:G)(K:Kn):Code:=(gS [co 2 (.int .i32 0),nv g K.tU32 K.tI32 .i32,pZ K,dg 3 2,cp .ret] 4).1
section
variable {P:Program} {g:G} {K:Kn} {T:Nat}
theorem EW (kt:KT P g K)(ks:KSub P g K T)(N2:cJ (g.rd .i32)=true)(L1:cJ g.span=true){f ntmps:Nat}(hfn:FnIs P f ntmps [2] (FA g K))(Jg:13<=ntmps):RdOk P T .bytes f:=by
 refine⟨hfn.ent,λw S R r hR hRS=>jl kt.mixed hfn aa λa h0 hs hd=>?_⟩
 refine bt (eW (x:=2) (m:=0) (k0:=0) (.inl rfl) aa λa1 IP _=>?_)
 have IX:=IP.size
 rw[show(co 2 (.slice none 0 0) 4).2=4 from rfl]
 refine bt (uL (r':=(rI 4 r).2) (ks.e32 N2) (ks.c32 N2 w S R r hR hRS) (g9 IP h0 aa aa) aa aa λa2 w2 IR Ja Jt IV=>?_)
 have Jr:=IR.size
 rw[show(pY (g.rd .i32) 4).2=6 from rfl]
 have JW:a2.defers=[]:=by rw[IR.defers,IP.defers];exact hd
 refine bt ?_
 rw[cn]
 refine Ek kt Ja aa aa (λhx a' hd' Jn=>⟨hd'.trans JW,?_⟩) (λhx a3 IW=>?_)
 ·rw[Jn]
  have Jl:PF.run .bytes r=(.s [],(rI 4 r).2):=by simp[PF.run,hx]
  rw[Jl]
  have LX:br (λ_=>False) w2 (w2.alloc (.cells #[] K.tU8 (0,0))):=br.alloc _ _ _
  have Jc:=IV.size
  refine⟨_,rfl,Jt.keep LX id id,IV.trans (LX.mono λ_ _ h=>h.elim),λX hX hS=>.inr ⟨[],w2.heap.size,0,0,rfl,λh=>?_,by simp,ae _,by simp,λi x hi=>by simp at hi,rfl⟩⟩
  have:=hX _ h
  omega
 ·have JI:=IW.size
  have Jl:PF.run .bytes r=cd (rI 4 r).1 (rI 4 r).2:=by simp[PF.run,hx]
  rw[Jl]
  rw[show(BO K K.tI32 .i32 6).2=9 from rfl]
  have P1:a3.get 0=pt R 0:=g9 IW (g9 IR (g9 IP h0 aa aa) aa aa) aa aa
  refine bt (bF (mI ks L1 (.inr rfl) kt.dI32 kt.dInt (lA (.inr rfl)) P1 ((IW.get 3 aa (.inr ⟨by omega,by omega⟩)).trans Ja) Jt hRS aa aa λa4 w4 v Jp JS JP Jm NX=>b7 (wpList_nil (bt (.ret ⟨?_,?_⟩)))))
  ·simp only[b6];rw[Jp.defers,IW.defers];exact JW
  ·rw[bp,JS,bA (by have:=Jp.size;omega)]
   exact⟨v,rfl,JP,IV.trans Jm,λX _ hS=>kO hS NX⟩
theorem DL (kt:KT P g K)(ks:KSub P g K T)(M2:cJ g.uv=true)(L1:cJ g.span=true){f ntmps:Nat}(hfn:FnIs P f ntmps [2] (D4 g K))(Jg:14<=ntmps):RdOk P T .cbytes f:=by
 refine⟨hfn.ent,λw S R r hR hRS=>jl kt.mixed hfn aa λa h0 hs hd=>?_⟩
 refine bt (eW (x:=2) (m:=0) (k0:=0) (.inl rfl) aa λa1 IP _=>?_)
 have IX:=IP.size
 rw[show(co 2 (.slice none 0 0) 4).2=4 from rfl]
 refine bt (sI kt ks M2 hR hRS kt.dU32 kt.dInt (g9 IP h0 aa aa) aa aa λa2 w2 IR Ja Jt IV=>?_)
 rw[vu]at Ja
 have Jr:=IR.size
 rw[show(nv g K.tU32 K.tInt .i64 4).2=8 from rfl]
 have JW:a2.defers=[]:=by rw[IR.defers,IP.defers];exact hd
 refine bt ?_
 rw[cn]
 refine Ek kt Ja aa aa (λhx a' hd' Jn=>⟨hd'.trans JW,?_⟩) (λhx a3 IW=>?_)
 ·rw[Jn]
  have Jl:PF.run .cbytes r=(.s [],(bZ r).2):=by simp only[PF.run,hx,aw]
  rw[Jl]
  have LX:br (λ_=>False) w2 (w2.alloc (.cells #[] K.tU8 (0,0))):=br.alloc _ _ _
  have Jc:=IV.size
  refine⟨_,rfl,Jt.keep LX id id,IV.trans (LX.mono λ_ _ h=>h.elim),λX hX hS=>.inr ⟨[],w2.heap.size,0,0,rfl,λh=>?_,by simp,ae _,by simp,λi x hi=>by simp at hi,rfl⟩⟩
  have:=hX _ h
  omega
 ·have JI:=IW.size
  have Jl:PF.run .cbytes r=cd ((bZ r).1-1:Int) (bZ r).2:=by simp only[PF.run,hx,ak]
  rw[Jl]
  rw[show(BO K K.tInt .i64 8).2=11 from rfl]
  have P1:a3.get 0=pt R 0:=g9 IW (g9 IR (g9 IP h0 aa aa) aa aa) aa aa
  refine bt (bF (pn ks L1 P1 ((IW.get 3 aa (.inr ⟨by omega,by omega⟩)).trans Ja) Jt hRS aa aa λa4 w4 v Jp JS JP Jm NX=>b7 (wpList_nil (bt (.ret ⟨?_,?_⟩)))))
  ·simp only[b6];rw[Jp.defers,IW.defers];exact JW
  ·rw[bp,JS,bA (by have:=Jp.size;omega)]
   exact⟨v,rfl,JP,IV.trans Jm,λX _ hS=>kO hS NX⟩
theorem DK (kt:KT P g K)(ks:KSub P g K T)(N2:cJ (g.rd .i32)=true)(L1:cJ g.span=true){f ntmps:Nat}(hfn:FnIs P f ntmps [2] (D3 g K))(Jg:14<=ntmps):RdOk P T .nbytes f:=by
 refine⟨hfn.ent,λw S R r hR hRS=>jl kt.mixed hfn aa λa h0 hs hd=>?_⟩
 refine bt (eW (x:=2) (m:=0) (k0:=0) (.inl rfl) aa λa1 IP _=>?_)
 have IX:=IP.size
 rw[show(co 2 (.slice none 0 0) 5).2=5 from rfl]
 refine bt (uL (r':=(rI 4 r).2) (ks.e32 N2) (ks.c32 N2 w S R r hR hRS) (g9 IP h0 aa aa) aa aa λa2 w2 IR Ja Jt IV=>?_)
 have Jr:=IR.size
 rw[show(pY (g.rd .i32) 5).2=7 from rfl]
 have JW:a2.defers=[]:=by rw[IR.defers,IP.defers];exact hd
 refine bt ?_
 rw[cn]
 refine BK Ja aa aa (λhx a' hd' Jn=>⟨hd'.trans JW,?_⟩) (λhx a3 IW=>?_)
 ·rw[Jn]
  have Jl:PF.run .nbytes r=(.nul,(rI 4 r).2):=by simp only[PF.run,hx,aw]
  rw[Jl]
  exact⟨_,rfl,Jt,IV,λX _ _=>.inl ⟨rfl,rfl⟩⟩
 ·have JI:=IW.size
  have Jl:PF.run .nbytes r=cd (rI 4 r).1 (rI 4 r).2:=by simp only[PF.run,hx,ak]
  rw[Jl]
  rw[show(wP K.tI32 .i32 (.slice none 0 0) 7).2=9 from rfl]
  have P1:a3.get 0=pt R 0:=g9 IW (g9 IR (g9 IP h0 aa aa) aa aa) aa aa
  refine bt (bF (mI ks L1 (.inr rfl) kt.dI32 kt.dInt (lA (.inr rfl)) P1 ((IW.get 3 aa (.inr ⟨by omega,by omega⟩)).trans Ja) Jt hRS aa aa λa4 w4 v Jp JS JP Jm NX=>b7 (wpList_nil ?_)))
  have L3:=Jp.size
  refine bt (gJ (x:=2) (m:=0) (k0:=0) (.inl rfl) (ae _) aa (by simp only[bq,bL];omega) (by simp only[bq];omega) λa5 Kt Lj=>bt (.ret ⟨?_,?_⟩))
  ·rw[Kt.defers];simp only[b6];rw[Jp.defers,IW.defers];exact JW
  ·rw[Lj,bA aa,bp,JS]
   exact⟨v,rfl,JP,IV.trans Jm,λX _ hS=>kO hS NX⟩
theorem xS (kt:KT P g K){w:World}{S R n:Nat}{r:RS}{x:Int}{a:Act}{KK E:Act->World->Prop}(h0:a.get 0=pt R 0)(h3:a.get 3=.int .i32 x)(hx:-2147483648<=x/\x<2147483648)(hR:ep w T S R r)(hRS:S≠R)(hn:n+14<=a.tmps.size)(QY:3<n)
  (J5:(r.src.length:Int)<x->∀ a' w',a'.defers=a.defers->a'.get 2=.int .i32 0->ep w' T S R .fail->br (·=R) w w'->E a' w') (Ki:¬ (r.src.length:Int)<x->∀ a',Pv n 0 0 n a a'->KK a' w):cf P (pZ K n).1 (Rt KK E) a w:=by
 obtain⟨v,hv⟩:=hR
 obtain⟨base,c,Mw,_⟩:=hv.2.len
 have hw:IntKind.i64.wrap x=x:=by simp[IntKind.wrap,IntKind.bits,IntKind.signed];omega
 have key:∀ (b:Bool) (K':Act->World->Prop) (Q':Exit->Act->World->Prop),b=decide ((r.src.length:Int)<x)->(∀ a',a'.eval (tm (n+7))=.bool b->Pv n 0 0 n a a'->K' a' w) ->
   wpList P (jV K 0 n++[bi (some (n+4)) .len [tm (n+3)] [K.tSl] K.tInt,mk (some (n+5)) (.move (tm 3)),mk (some (n+6)) (.convert K.tI32 K.tInt (tm (n+5))),mk (some (n+7)) (.binOp .lss K.tInt (tm (n+4)) (tm (n+6)) 0)]).toArray (Exit.then K' Q')
   (jV K 0 n++[bi (some (n+4)) .len [tm (n+3)] [K.tSl] K.tInt,mk (some (n+5)) (.move (tm 3)),mk (some (n+6)) (.convert K.tI32 K.tInt (tm (n+5))),mk (some (n+7)) (.binOp .lss K.tInt (tm (n+4)) (tm (n+6)) 0)]) a w:=by
  intro b K' Q' hb hK
  refine lf kt h0 hv aa λa2 IR Ja=>?_
  have Jr:=IR.size
  have Yk:a2.get 3=.int .i32 x:=(IR.get 3 aa (.inr ⟨by omega,by omega⟩)).trans h3
  refine gi (n:=r.src.length) (c:=c) (base:=base) (by rw[bp,Ja,Mw]) kt.sl ?_
  refine bv ?_
  rw[bp,b8 aa,Yk]
  refine ci (k:=.i32) (k':=.i64) (by rw[bp,bA (by simp only[bq];omega)]) kt.dI32 kt.dInt ?_
  rw[hw]
  refine cZ (b:=b) (p:=(r.src.length:Int)) (q:=x) (k:=.i64) (by rw[bp,b8 aa,b8 aa,bA aa]) (by rw[bp,bA (by simp only[bq];omega)]) (.inr (.inr (.inl ⟨rfl,hb⟩))) (wpList_nil (hK _ ?_ ((((IR.put _ aa).put _ aa).put _ aa).put _ aa)))
  rw[bp,bA (by simp only[bq];omega)]
 by_cases IU:(r.src.length:Int)<x
 ·refine eX (key true _ _ (by simp[IU]) λa' he hp=>⟨he,?_⟩)
  have hs:=hp.size
  exact wO kt ((hp.get 0 aa (.inr ⟨by omega,by omega⟩)).trans h0) hv hRS aa aa λa3 w3 Kp Jw JQ IZ=>J5 IU a3 w3 (Kp.trans hp.defers) Jw JQ IZ
 ·exact eK (key false _ _ (by simp[IU]) λa' he hp=>⟨he,.skip (Ki IU a' hp)⟩)
theorem len_calls (kt:KT P g K)(ks:KSub P g K T)(N2:cJ (g.rd .i32)=true){f ntmps:Nat}(hfn:FnIs P f ntmps [2] (cLen g K))(Jg:21<=ntmps){w:World}{S R:Nat}{r:RS}(hR:ep w T S R r)(hRS:S≠R) :
  Calls P f #[pt R 0] w λe w'=>e=.returned (.int .i32 (cW false r).1)/\ep w' T S R (cW false r).2/\br (·=R) w w':=by
 refine jl kt.mixed hfn aa λa h0 hs hd=>?_
 refine bt (eW (x:=2) (m:=0) (k0:=0) (.inl rfl) aa λa1 IP _=>?_)
 have IX:=IP.size
 rw[show(co 2 (.int .i32 0) 4).2=4 from rfl]
 refine bt (uL (r':=(rI 4 r).2) (ks.e32 N2) (ks.c32 N2 w S R r hR hRS) (g9 IP h0 aa aa) aa aa λa2 w2 IR Ja Jt IV=>?_)
 have Jr:=IR.size
 rw[show(pY (g.rd .i32) 4).2=6 from rfl]
 have JW:a2.defers=[]:=by rw[IR.defers,IP.defers];exact hd
 have SE:a2.get 0=pt R 0:=g9 IR (g9 IP h0 aa aa) aa aa
 refine bt ?_
 rw[cn]
 refine xS kt SE Ja (lA (.inr rfl)) Jt hRS aa aa (λIU a' w' hd' Jn Rx Ko=>⟨hd'.trans JW,?_⟩) (λIU a3 IW=>?_)
 ·have hr:cW false r=(0,.fail):=by simp only[cW,ag,ak,IU,aw]
  rw[hr,Jn]
  exact⟨rfl,Rx,IV.trans Ko⟩
 ·have hr:cW false r=rI 4 r:=by simp only[cW,ag,ak,IU]
  have JI:=IW.size
  rw[hr]
  rw[show(pZ K 6).2=20 from rfl]
  refine bt (gJ (x:=2) (m:=0) (k0:=0) (.inl rfl) (ae _) aa aa aa λa4 Jp JS=>bt (.ret ⟨?_,?_⟩))
  ·rw[Jp.defers,IW.defers];exact JW
  ·rw[JS,IW.get 3 aa (.inr ⟨by omega,by omega⟩),Ja]
   exact⟨rfl,Jt,IV⟩
theorem clen_calls (kt:KT P g K)(ks:KSub P g K T)(M2:cJ g.uv=true){f ntmps:Nat}(hfn:FnIs P f ntmps [2] (cCLen g K))(Jg:23<=ntmps){w:World}{S R:Nat}{r:RS}(hR:ep w T S R r)(hRS:S≠R) :
  Calls P f #[pt R 0] w λe w'=>e=.returned (.int .i32 (cW true r).1)/\ep w' T S R (cW true r).2/\br (·=R) w w':=by
 refine jl kt.mixed hfn aa λa h0 hs hd=>?_
 refine bt (eW (x:=2) (m:=0) (k0:=0) (.inl rfl) aa λa1 IP _=>?_)
 have IX:=IP.size
 rw[show(co 2 (.int .i32 0) 4).2=4 from rfl]
 refine bt (sI kt ks M2 hR hRS kt.dU32 kt.dI32 (g9 IP h0 aa aa) aa aa λa2 w2 IR Ja Jt IV=>?_)
 rw[E5]at Ja
 have Jr:=IR.size
 rw[show(nv g K.tU32 K.tI32 .i32 4).2=8 from rfl]
 have JW:a2.defers=[]:=by rw[IR.defers,IP.defers];exact hd
 have SE:a2.get 0=pt R 0:=g9 IR (g9 IP h0 aa aa) aa aa
 have Rz:-2147483648<=eB (eB (bZ r).1-1)/\eB (eB (bZ r).1-1)<2147483648:=by simp only[eB];omega
 refine bt ?_
 rw[cn]
 refine xS kt SE Ja Rz Jt hRS aa aa (λIU a' w' hd' Jn Rx Ko=>⟨hd'.trans JW,?_⟩) (λIU a3 IW=>?_)
 ·have hr:cW true r=(0,.fail):=by simp only[cW,aw,IU]
  rw[hr,Jn]
  exact⟨rfl,Rx,IV.trans Ko⟩
 ·have hr:cW true r=(eB (eB (bZ r).1-1),(bZ r).2):=by simp only[cW,aw,IU,ak]
  have JI:=IW.size
  rw[hr]
  rw[show(pZ K 8).2=22 from rfl]
  refine bt (gJ (x:=2) (m:=0) (k0:=0) (.inl rfl) (ae _) aa aa aa λa4 Jp JS=>bt (.ret ⟨?_,?_⟩))
  ·rw[Jp.defers,IW.defers];exact JW
  ·rw[JS,IW.get 3 aa (.inr ⟨by omega,by omega⟩),Ja]
   exact⟨rfl,Jt,IV⟩
end
structure KBig (P:Program)(K:Kn):Prop where
 be:cv P K.tBE true 0
 d16:P.underlying K.tU16=some (.int .u16)
 d64:cJ K.fU64=true->P.underlying K.tU64=some (.int .u64)
 dI64:cJ K.fU64=true->P.underlying K.tI64=some (.int .i64)
 f16:cJ K.fU16=true->FnIs P K.fU16 18 [4] (gBig K K.tU16 .u16 2)
 f32:cJ K.fU32=true->FnIs P K.fU32 30 [4] (gBig K K.tU32 .u32 4)
 f64:cJ K.fU64=true->FnIs P K.fU64 54 [4] (gBig K K.tU64 .u64 8)
section
variable {P:Program} {g:G} {K:Kn} {T:Nat}
theorem F0 (K:Kn)(tK:Nat):fo (kP K tK 2++[mk (some 4) (.assign (tm 17))])=List.replicate 10 false++[true]:=by kernel_rfl
theorem Fz (K:Kn)(tK:Nat):fo (kP K tK 4++[mk (some 4) (.assign (tm 29))])=List.replicate 22 false++[true]:=by kernel_rfl
theorem Fy (K:Kn)(tK:Nat):fo (kP K tK 8++[mk (some 4) (.assign (tm 53))])=List.replicate 46 false++[true]:=by kernel_rfl
theorem Et (kt:KT P g K)(kb:KBig P K)(hF:cJ K.fU16=true){w:World}{S:Nat}{r:RS}{v:Value}(h:dj w S v r)(hk:2<=r.src.length):Calls P K.fU16 #[.agg #[],v] w λe w'=>e=.returned (.int .u16 ((ei (r.src.take 2):Nat):Int))/\br (λ_=>False) w w':=
 om kt (kb.f16 hF) aa (.inl rfl) kb.d16 aa (by simp[IntKind.bits]) kb.be ⟨_,F0 K _,rfl,rfl⟩ h hk
theorem Io (kt:KT P g K)(kb:KBig P K)(hF:cJ K.fU32=true){w:World}{S:Nat}{r:RS}{v:Value}(h:dj w S v r)(hk:4<=r.src.length):Calls P K.fU32 #[.agg #[],v] w λe w'=>e=.returned (.int .u32 ((ei (r.src.take 4):Nat):Int))/\br (λ_=>False) w w':=
 om kt (kb.f32 hF) aa (.inr (.inl rfl)) kt.dU32 aa (by simp[IntKind.bits]) kb.be ⟨_,Fz K _,rfl,rfl⟩ h hk
theorem Im (kt:KT P g K)(kb:KBig P K)(hF:cJ K.fU64=true){w:World}{S:Nat}{r:RS}{v:Value}(h:dj w S v r)(hk:8<=r.src.length):Calls P K.fU64 #[.agg #[],v] w λe w'=>e=.returned (.int .u64 ((ei (r.src.take 8):Nat):Int))/\br (λ_=>False) w w':=
 om kt (kb.f64 hF) aa (.inr (.inr rfl)) (kb.d64 hF) aa (by simp[IntKind.bits]) kb.be ⟨_,Fy K _,rfl,rfl⟩ h hk
theorem i16_calls (kt:KT P g K)(kb:KBig P K)(hF:cJ K.fU16=true){f ntmps:Nat}(hfn:FnIs P f ntmps [2] (cI16 K))(Jg:32<=ntmps){w:World}{S R:Nat}{r:RS}(hR:ep w T S R r)(hRS:S≠R) :
  Calls P f #[pt R 0] w (jQ T S R 2 r w (.int .i16 0) (.int .i16 (IntKind.wrap .i16 ((ei (r.src.take 2):Nat):Int)))):=
 pX kt (kr:=7) (rv:=.int .i16 (IntKind.wrap .i16 ((ei (r.src.take 2):Nat):Int))) hfn rfl aa hR hRS
  (λhk v a K' Q' hv h0 hs h=>xT (k:=2) (kind:=.u16) kt kb.be (kb.f16 hF).ent (λw' hv'=>Et kt kb hF hv' hk) ⟨.i16,kb.d16,kt.dI16,rfl⟩ hv h0 aa h) (λhk a w' K' Q' h3 hs h=>sJ h3 aa aa h)
theorem i32_calls (kt:KT P g K)(kb:KBig P K)(hF:cJ K.fU32=true){f ntmps:Nat}(hfn:FnIs P f ntmps [2] (cI32 K))(Jg:32<=ntmps){w:World}{S R:Nat}{r:RS}(hR:ep w T S R r)(hRS:S≠R) :
  Calls P f #[pt R 0] w (jQ T S R 4 r w (.int .i32 0) (.int .i32 (IntKind.wrap .i32 ((ei (r.src.take 4):Nat):Int)))):=
 pX kt (kr:=7) (rv:=.int .i32 (IntKind.wrap .i32 ((ei (r.src.take 4):Nat):Int))) hfn rfl aa hR hRS
  (λhk v a K' Q' hv h0 hs h=>xT (k:=4) (kind:=.u32) kt kb.be (kb.f32 hF).ent (λw' hv'=>Io kt kb hF hv' hk) ⟨.i32,kt.dU32,kt.dI32,rfl⟩ hv h0 aa h) (λhk a w' K' Q' h3 hs h=>sJ h3 aa aa h)
theorem FQ (kt:KT P g K)(kb:KBig P K)(hF:cJ K.fU16=true){f ntmps:Nat}(hfn:FnIs P f ntmps [2] (I7 K))(Jg:31<=ntmps){w:World}{S R:Nat}{r:RS}(hR:ep w T S R r)(hRS:S≠R) :
  Calls P f #[pt R 0] w (jQ T S R 2 r w (.int .u16 0) (.int .u16 ((ei (r.src.take 2):Nat):Int))):=
 pX kt (kr:=6) (rv:=.int .u16 ((ei (r.src.take 2):Nat):Int)) hfn rfl aa hR hRS
  (λhk v a K' Q' hv h0 hs h=>xT (conv:=none) (k:=2) (kind:=.u16) kt kb.be (kb.f16 hF).ent (λw' hv'=>Et kt kb hF hv' hk) rfl hv h0 aa h) (λhk a w' K' Q' h3 hs h=>sJ h3 aa aa h)
theorem yS (kt:KT P g K)(kb:KBig P K)(hF:cJ K.fU64=true){f ntmps:Nat}(hfn:FnIs P f ntmps [2] (cR64 K))(Jg:31<=ntmps){w:World}{S R:Nat}{r:RS}(hR:ep w T S R r)(hRS:S≠R) :
  Calls P f #[pt R 0] w (jQ T S R 8 r w (.int .u64 0) (.int .u64 ((ei (r.src.take 8):Nat):Int))):=
 pX kt (kr:=6) (rv:=.int .u64 ((ei (r.src.take 8):Nat):Int)) hfn rfl aa hR hRS
  (λhk v a K' Q' hv h0 hs h=>xT (conv:=none) (k:=8) (kind:=.u64) kt kb.be (kb.f64 hF).ent (λw' hv'=>Im kt kb hF hv' hk) rfl hv h0 aa h) (λhk a w' K' Q' h3 hs h=>sJ h3 aa aa h)
theorem rdOk_i16 (kt:KT P g K)(kb:KBig P K)(hF:cJ K.fU16=true){f ntmps:Nat}(hfn:FnIs P f ntmps [2] (cI16 K))(Jg:32<=ntmps):RdOk P T .i16 f:=
 ⟨hfn.ent,λw S R r hR hRS=>(i16_calls kt kb hF hfn Jg hR hRS).mono λe w' h=>by
  obtain⟨h1,h2,h3,h4⟩:=rdOk_int (p:=.i16) (.inr (.inl ⟨rfl,rfl⟩)) rfl h
  exact⟨_,h1,h2,h3,λX _ _=>h4 X⟩⟩
theorem rdOk_i32 (kt:KT P g K)(kb:KBig P K)(hF:cJ K.fU32=true){f ntmps:Nat}(hfn:FnIs P f ntmps [2] (cI32 K))(Jg:32<=ntmps):RdOk P T .i32 f:=
 ⟨hfn.ent,λw S R r hR hRS=>(i32_calls kt kb hF hfn Jg hR hRS).mono λe w' h=>by
  obtain⟨h1,h2,h3,h4⟩:=rdOk_int (p:=.i32) (.inr (.inr (.inl ⟨rfl,rfl⟩))) rfl h
  exact⟨_,h1,h2,h3,λX _ _=>h4 X⟩⟩
theorem rdOk_i64 (kt:KT P g K)(kb:KBig P K)(hF:cJ K.fU64=true){f ntmps n64:Nat}(Yh:FnIs P K.fR64 n64 [2] (cR64 K))(WE:31<=n64)(hfn:FnIs P f ntmps [2] (cI64 K))(Jg:6<=ntmps):RdOk P T .i64 f:=by
 refine⟨hfn.ent,λw S R r hR hRS=>?_⟩
 have hc:Calls P f #[pt R 0] w (jQ T S R 8 r w (.int .i64 0) (.int .i64 (IntKind.wrap .i64 ((ei (r.src.take 8):Nat):Int)))):=by
  refine hfn.calls kt.mixed ab ?_
  have Jc:=dw #[pt R 0] ntmps (by show 1<=ntmps;omega)
  have Ke:({ tmps:=#[pt R 0]++Array.replicate (ntmps-(#[pt R 0]:Array Value).size) undef,defers:=[] }:Act).get 0=pt R 0:=by rw[db _ _ _ ab];rfl
  have KF:({ tmps:=#[pt R 0]++Array.replicate (ntmps-(#[pt R 0]:Array Value).size) undef,defers:=[] }:Act).defers=[]:=rfl
  have hsz':({ tmps:=#[pt R 0]++Array.replicate (ntmps-(#[pt R 0]:Array Value).size) undef,defers:=[] }:Act).tmps.size=ntmps:=Jc
  generalize({ tmps:=#[pt R 0]++Array.replicate (ntmps-(#[pt R 0]:Array Value).size) undef,defers:=[] }:Act)=a at Ke KF hsz' ⊢
  refine cC (bt (eW (x:=2) (m:=0) (k0:=0) (.inl rfl) aa λa1 IP IY=>?_))
  have IX:=IP.size
  rw[show(co 2 (.int .i64 0) 3).2=3 from rfl]
  refine bt (bF (bv ?_))
  rw[bp,IP.get 0 aa (.inr ⟨by omega,by omega⟩),Ke]
  refine cj (vs:=#[pt R 0]) Yh.ent (by simp[bp,bA (show 3<a1.tmps.size by omega)]) (yS kt kb hF Yh WE hR hRS) λe w' Kr=>?_
  obtain⟨h1,h2⟩:=Kr
  by_cases IU:r.src.length<8
  ·rw[ax IU]at h1
   refine⟨_,h1.1,ci (k:=.u64) (k':=.i64) (m:=0) (by rw[bp,bA (by simp only[bq];omega)]) (kb.d64 hF) (kb.dI64 hF) (b7 (wpList_nil (bt (.ret ⟨?_,?_,h2⟩))))⟩
   ·simp only[b6];rw[IP.defers];exact KF
   ·rw[ax IU]
    refine⟨?_,h1.2⟩
    simp only[cE]
    rw[bA (by simp only[bq];omega),bp,bA (by simp only[bq];omega)]
    rfl
  ·rw[al IU]at h1
   refine⟨_,h1.1,ci (k:=.u64) (k':=.i64) (by rw[bp,bA (by simp only[bq];omega)]) (kb.d64 hF) (kb.dI64 hF) (b7 (wpList_nil (bt (.ret ⟨?_,?_,h2⟩))))⟩
   ·simp only[b6];rw[IP.defers];exact KF
   ·rw[al IU]
    refine⟨?_,h1.2⟩
    simp only[cE]
    rw[bA (by simp only[bq];omega),bp,bA (by simp only[bq];omega)]
 exact hc.mono λe w' h=>by
  obtain⟨h1,h2,h3,h4⟩:=rdOk_int (p:=.i64) (.inr (.inr (.inr ⟨rfl,rfl⟩))) rfl h
  exact⟨_,h1,h2,h3,λX _ _=>h4 X⟩
def cOk (K:Kn):Code:=(gS [co 2 (.bool false),bL 5 λn=>[mk (some n) (.move (tm 0)),mk (some (n+1)) (.nilCheck (tm n)),mk (some (n+2)) (.fieldAddr K.tRS (tm (n+1)) 1),mk (some (n+3)) (.load K.tB (tm (n+2))),mk (some (n+4)) (.unOp .not K.tB (tm (n+3))),mk (some 2) (.assign (tm (n+4)))],cp .ret] 3).1
def cComplete (K:Kn):Code:=(gS [co 2 .nilIface,gb 3 4 (λn=>[mk (some n) (.move (tm 0)),mk (some (n+1)) (.nilCheck (tm n)),mk (some (n+2)) (.fieldAddr K.tRS (tm (n+1)) 1),mk (some (n+3)) (.load K.tB (tm (n+2)))])
 (gS [bL 1 λn=>[mk (some n) (.load K.tErr (.global K.gErr)),mk (some 2) (.assign (tm n))],cp .ret]) cY,co 2 .nilIface,cp .ret] 3).1
theorem ok_calls (kt:KT P g K){f ntmps:Nat}(hfn:FnIs P f ntmps [2] (cOk K))(Jg:8<=ntmps){w:World}{S R:Nat}{r:RS}(hR:ep w T S R r):Calls P f #[pt R 0] w λe w'=>e=.returned (.bool (!r.bad))/\br (λ_=>False) w w':=by
 refine hfn.calls kt.mixed ab ?_
 have Jc:=dw #[pt R 0] ntmps (by show 1<=ntmps;omega)
 have Ke:({ tmps:=#[pt R 0]++Array.replicate (ntmps-(#[pt R 0]:Array Value).size) undef,defers:=[] }:Act).get 0=pt R 0:=by rw[db _ _ _ ab];rfl
 have KF:({ tmps:=#[pt R 0]++Array.replicate (ntmps-(#[pt R 0]:Array Value).size) undef,defers:=[] }:Act).defers=[]:=rfl
 have hsz':({ tmps:=#[pt R 0]++Array.replicate (ntmps-(#[pt R 0]:Array Value).size) undef,defers:=[] }:Act).tmps.size=ntmps:=Jc
 generalize({ tmps:=#[pt R 0]++Array.replicate (ntmps-(#[pt R 0]:Array Value).size) undef,defers:=[] }:Act)=a at Ke KF hsz' ⊢
 obtain⟨v,Lf,_⟩:=hR
 have hc:w.cell? ⟨R,0+1,none⟩=some (.bool r.bad):=by simp[World.cell?,Lf]
 refine cC (bt (eW (x:=2) (m:=0) (k0:=0) (.inl rfl) aa λa1 IP IY=>?_))
 have IX:=IP.size
 rw[show(co 2 (.bool false) 3).2=3 from rfl]
 refine bt (bF (bv ?_))
 rw[bp,IP.get 0 aa (.inr ⟨by omega,by omega⟩),Ke]
 refine bY (by rw[bp,bA aa];rfl) ?_
 refine dt (by rw[bp,bA (by simp only[bq];omega)]) kt.f1 ?_
 refine cL (by rw[bp,bA (by simp only[bq];omega)]) (kt.f1.var.agg _) hc ?_
 refine pp (b:=r.bad) (by rw[bp,bA (by simp only[bq];omega)]) (b7 (wpList_nil (bt (.ret ⟨?_,?_,br.refl _ _⟩))))
 ·simp only[b6];rw[IP.defers];exact KF
 ·simp only[cE]
  rw[bA (by simp only[bq];omega),bp,bA (by simp only[bq];omega)]
theorem complete_calls (kt:KT P g K){f ntmps:Nat}(hfn:FnIs P f ntmps [2] (cComplete K))(Jg:8<=ntmps)(hE:cv P K.tErr false 1){w:World}{S R:Nat}{r:RS}(hR:ep w T S R r)(herr:ErrAt K.gErr w) :
  Calls P f #[pt R 0] w λe w'=>br (λ_=>False) w w'/\∃ v,e=.returned v/\(r.bad=false->v=.nilIface)/\(r.bad=true->∃ t x,v=.iface t x):=by
 refine hfn.calls kt.mixed ab ?_
 have Jc:=dw #[pt R 0] ntmps (by show 1<=ntmps;omega)
 have Ke:({ tmps:=#[pt R 0]++Array.replicate (ntmps-(#[pt R 0]:Array Value).size) undef,defers:=[] }:Act).get 0=pt R 0:=by rw[db _ _ _ ab];rfl
 have KF:({ tmps:=#[pt R 0]++Array.replicate (ntmps-(#[pt R 0]:Array Value).size) undef,defers:=[] }:Act).defers=[]:=rfl
 have hsz':({ tmps:=#[pt R 0]++Array.replicate (ntmps-(#[pt R 0]:Array Value).size) undef,defers:=[] }:Act).tmps.size=ntmps:=Jc
 generalize({ tmps:=#[pt R 0]++Array.replicate (ntmps-(#[pt R 0]:Array Value).size) undef,defers:=[] }:Act)=a at Ke KF hsz' ⊢
 obtain⟨v,Lf,_⟩:=hR
 have hc:w.cell? ⟨R,0+1,none⟩=some (.bool r.bad):=by simp[World.cell?,Lf]
 obtain⟨te,xe,PI⟩:=herr
 refine cC (bt (eW (x:=2) (m:=0) (k0:=0) (.inl rfl) aa λa1 IP IY=>?_))
 have IX:=IP.size
 rw[show(co 2 .nilIface 3).2=3 from rfl]
 refine bt ?_
 have key:∀ (K':Act->World->Prop),(∀ a',a'.eval (tm (3+3))=.bool r.bad->Pv 3 0 0 3 a1 a'->K' a' w)->∀ Q',wpList P [mk (some 3) (.move (tm 0)),mk (some (3+1)) (.nilCheck (tm 3)),mk (some (3+2)) (.fieldAddr K.tRS (tm (3+1)) 1),mk (some (3+3)) (.load K.tB (tm (3+2)))].toArray (Exit.then K' Q')
   [mk (some 3) (.move (tm 0)),mk (some (3+1)) (.nilCheck (tm 3)),mk (some (3+2)) (.fieldAddr K.tRS (tm (3+1)) 1),mk (some (3+3)) (.load K.tB (tm (3+2)))] a1 w:=by
  intro K' hK Q'
  refine bv ?_
  rw[bp,IP.get 0 aa (.inr ⟨by omega,by omega⟩),Ke]
  refine bY (by rw[bp,bA aa];rfl) ?_
  refine dt (by rw[bp,bA (by simp only[bq];omega)]) kt.f1 ?_
  refine cL (by rw[bp,bA (by simp only[bq];omega)]) (kt.f1.var.agg _) hc (wpList_nil (hK _ ?_ ((((((Pv.refl _ _ _ _ _).put _ aa).put _ aa).put _ aa).put _ aa))))
  rw[bp,bA (by simp only[bq];omega)]
 cases hb:r.bad with
 | true=>
  rw[hb]at key
  refine eX (key _ (λa' he hp=>⟨he,?_⟩) _)
  have hs:=hp.size
  refine cC (bt (bF ?_))
  have KU:a'.eval (.global K.gErr)=.pointer (some ⟨K.gErr,0,none⟩):=rfl
  refine cL KU (hE.agg _) PI (b7 (wpList_nil (bt (.ret ⟨?_,br.refl _ _,.iface te xe,?_,λh=>(by cases h),λ_=>⟨te,xe,rfl⟩⟩))))
  ·simp only[b6];rw[hp.defers,IP.defers];exact KF
  ·simp only[cE]
   rw[bA (by simp only[bq];omega),bp,bA aa]
 | false=>
  rw[hb]at key
  refine eK (key _ (λa' he hp=>⟨he,.skip ?_⟩) _)
  have hs:=hp.size
  refine bt (eW (x:=2) (m:=0) (k0:=0) (.inl rfl) aa λa2 IR Ja=>bt (.ret ⟨?_,br.refl _ _,.nilIface,?_,λ_=>rfl,λh=>(by cases h)⟩))
  ·rw[IR.defers,hp.defers,IP.defers];exact KF
  ·simp only[cE];rw[Ja]
end
def cSpan (K:Kn):Code:=(gS [co 4 (.slice none 0 0),gb 10 11 (λn=>jV K 0 n++[bi (some (n+4)) .len [tm (n+3)] [K.tSl] K.tInt,mk (some (n+5)) (.move (tm 1)),mk (some (n+6)) (.binOp .lss K.tInt (tm (n+4)) (tm (n+5)) 0),mk (some (n+7)) (.move (tm (n+6))),
  gd (n+8) (.move (tm 1)) 7 false,gd (n+9) (.binOp .lss K.tInt (tm (n+8)) (ki .i64 0) 0) 7 false,mk (some (n+10)) (.pick (tm (n+7)) (.const (.bool true)) (tm (n+9)))]) (sK K 4 (.slice none 0 0)) cY,
 bL 7 λn=>jV K 0 n++[mk (some (n+4)) (.move (tm 1)),mk (some (n+5)) (.move (tm 1)),mk (some (n+6)) (.slice K.tSl (tm (n+3)) none (some (tm (n+4))) (some (tm (n+5)))),mk (some 5) (.assign (tm (n+6)))],
 o8 K 1,dg 5 4,cp .ret] 6).1
section
variable {P:Program} {g:G} {K:Kn} {T S R:Nat} {r:RS} {n:Nat} {KK:Act->World->Prop} {Q:Exit->Act->World->Prop} {a:Act} {w:World}
def k7 (v:Value)(k:Nat):Value:=
 match v with
 | .slice base _ _=>.slice (if k=0 then base else base.map (·.add 0)) k k
 | v=>v
theorem dj.cap {v:Value}{k:Nat}(h:dj w S v r)(hk:k<=r.src.length):dj w S (k7 v k) ⟨(if r.nl then V.nul else .s (r.src.take k)).octets,false,(if r.nl then V.nul else .s (r.src.take k)).isNul⟩:=by
 rcases h with⟨h1,h2,h3⟩|⟨o,c,h1,h2,h3,h4,h5,h6⟩
 ·have:k=0:=by rw[h2]at hk;simpa using hk
  subst this
  rw[h3,h1]
  exact .inl ⟨rfl,rfl,rfl⟩
 ·subst h1
  rw[h2]
  have hm:min k r.src.length=k:=Nat.min_eq_left hk
  refine .inr ⟨o,k,?_,rfl,?_,by omega,h5,λi x hi=>?_⟩
  ·by_cases h0:k=0
   ·simp[k7,h0,V.octets]
   ·simp[k7,h0,V.octets,hm,Addr.add]
  ·simp[V.octets];omega
  ·simp only[ag,ak,V.octets,aX]at hi
   split at hi
   ·exact h6 i x hi
   ·cases hi
theorem vn (kt:KT P g K){ops:Array Oper}{l:List Oper}{d:Option Nat}{y hi mx:Operand}{v:Value}{k:Nat}(hy:a.eval y=v)(hv:dj w S v r)(hhi:a.eval hi=.int .i64 k)(R6:a.eval mx=.int .i64 k)(hk:k<=r.src.length)
  (h:wpList P ops Q l (a.put d (k7 v k)) w):wpList P ops Q (mk d (.slice K.tSl y none (some hi) (some mx))::l) a w:=by
 refine bP ?_ h
 obtain⟨base,c,Mw,Sl,Oa,LB,hb⟩:=hv.len
 subst Mw
 have hs:=kt.u8.size w
 have Jd:k<=c:=by omega
 have JM:¬ ((k:Int)<0):=by omega
 simp[execOp,mk,hy,hhi,R6,Instr.sliceAt,Instr.slice,run_underlying kt.sl,Instr.sliceBounds,Instr.sliceBound,asIntOf,hs,Jd,k7]
theorem BM (kt:KT P g K){v:Value}{k l:Nat}(h0:a.get 0=pt R 0)(hl:a.get l=.int .i64 k)(hR:C2 w T S R v r)(hk:k<=r.src.length)(hRS:S≠R)(hn:n+9<=a.tmps.size)(h0n:0<n)(hln:l<n)
  (h:∀ a',Pv n 0 0 n a a'->ep (w.setRow R #[jg v k,.bool r.bad]) T S R ⟨r.src.drop k,r.bad,r.nl⟩->KK a' (w.setRow R #[jg v k,.bool r.bad])):cf P (o8 K l n).1 (Exit.then KK Q) a w:=by
 refine bF (bv ?_)
 rw[bp,h0]
 refine lf kt (v:=v) (by rw[b8 aa];exact h0) hR (by simp only[bq];omega) λa1 IP IY=>?_
 have IX:=IP.size
 rw[bq]at IX
 have PD:a1.get n=pt R 0:=by rw[IP.get n aa (.inr ⟨by omega,by omega⟩),bA aa]
 have OD:a1.get l=.int .i64 k:=by rw[IP.get l aa (.inr ⟨by omega,by omega⟩),b8 aa];exact hl
 have L7:Pv n 0 0 n a a1:=((Pv.refl n 0 0 n a).put (pt R 0) aa).trans ⟨IP.size,IP.defers,λs hs hh=>IP.get s aa (.inr ⟨by omega,by omega⟩)⟩
 refine bv ?_
 rw[bp,OD]
 refine po kt (k:=k) (by rw[bp,b8 aa];exact IY) hR.2 (by rw[bp,bA aa]) hk ?_
 refine bY (by rw[bp,b8 aa,b8 aa,PD];rfl) ?_
 refine dt (by rw[bp,bA (by simp only[bq];omega)]) kt.f0 ?_
 obtain⟨Yn,Yl⟩:=lC (hR.2.cut hk)
 refine cK (cur:=#[v,.bool r.bad]) (t:=T) (v:=jg v k) (vs:=[jg v k]) (by rw[bp,bA (by simp only[bq];omega)]) (by rw[bp,b8 aa,b8 aa,bA (by simp only[bq];omega)]) (by rw[Yl]) (kt.f0.var.size _) hR.1 ab
  (λu hu=>by simp at hu;rw[hu];exact Yn) (wpList_nil ?_)
 have e1:bV #[v,.bool r.bad] (0+0) [jg v k]=#[jg v k,.bool r.bad]:=by simp[bV]
 rw[e1]
 refine h _ ((((L7.put _ aa).put _ aa).put _ aa).put _ aa) ⟨_,setRow_heap _ _ _ _ _ _ hR.1,(hR.2.cut hk).keep (br.setRow (λk=>k=R) _ _ _ rfl) hRS⟩
theorem span_calls (kt:KT P g K){f ntmps:Nat}(hfn:FnIs P f ntmps [4] (cSpan K))(Jg:40<=ntmps){k:Int}(hR:ep w T S R r)(hRS:S≠R):Calls P f #[pt R 0,.int .i64 k] w λe w'=>
  ∃ v,e=.returned v/\ep w' T S R (cd k r).2/\br (·=R) w w'/\dj w' S v ⟨(cd k r).1.octets,false,(cd k r).1.isNul⟩:=by
 refine hfn.calls kt.mixed ab ?_
 have Jc:=dw #[pt R 0,.int .i64 k] ntmps (by show 2<=ntmps;omega)
 have Ke:({ tmps:=#[pt R 0,.int .i64 k]++Array.replicate (ntmps-(#[pt R 0,.int .i64 k]:Array Value).size) undef,defers:=[] }:Act).get 0=pt R 0:=by rw[db _ _ _ ab];rfl
 have IY:({ tmps:=#[pt R 0,.int .i64 k]++Array.replicate (ntmps-(#[pt R 0,.int .i64 k]:Array Value).size) undef,defers:=[] }:Act).get 1=.int .i64 k:=by rw[db _ _ _ ab];rfl
 have KF:({ tmps:=#[pt R 0,.int .i64 k]++Array.replicate (ntmps-(#[pt R 0,.int .i64 k]:Array Value).size) undef,defers:=[] }:Act).defers=[]:=rfl
 have hsz':({ tmps:=#[pt R 0,.int .i64 k]++Array.replicate (ntmps-(#[pt R 0,.int .i64 k]:Array Value).size) undef,defers:=[] }:Act).tmps.size=ntmps:=Jc
 generalize({ tmps:=#[pt R 0,.int .i64 k]++Array.replicate (ntmps-(#[pt R 0,.int .i64 k]:Array Value).size) undef,defers:=[] }:Act)=a at Ke IY KF hsz' ⊢
 obtain⟨v,hv⟩:=hR
 refine cC (bt (eW (x:=4) (m:=0) (k0:=0) (.inl rfl) aa λa1 IP hg41=>?_))
 have IX:=IP.size
 have La:∀ s,s<4->a1.get s=a.get s:=λs h=>IP.get s aa (.inr ⟨by omega,by omega⟩)
 rw[show(co 4 (.slice none 0 0) 6).2=6 from rfl]
 obtain⟨base,c,Mw,Sl,Oa,LB,hb⟩:=hv.2.len
 have Jh:∀ (b:Bool) (K':Act->World->Prop) (Q':Exit->Act->World->Prop),b=(decide ((r.src.length:Int)<k) || decide (k<0))->(∀ a',a'.eval (tm (6+10))=.bool b->Pv 6 0 0 6 a1 a'->K' a' w) ->
   wpList P (jV K 0 6++[bi (some (6+4)) .len [tm (6+3)] [K.tSl] K.tInt,mk (some (6+5)) (.move (tm 1)),mk (some (6+6)) (.binOp .lss K.tInt (tm (6+4)) (tm (6+5)) 0),mk (some (6+7)) (.move (tm (6+6))),
    gd (6+8) (.move (tm 1)) 7 false,gd (6+9) (.binOp .lss K.tInt (tm (6+8)) (ki .i64 0) 0) 7 false,mk (some (6+10)) (.pick (tm (6+7)) (.const (.bool true)) (tm (6+9)))]).toArray (Exit.then K' Q')
   (jV K 0 6++[bi (some (6+4)) .len [tm (6+3)] [K.tSl] K.tInt,mk (some (6+5)) (.move (tm 1)),mk (some (6+6)) (.binOp .lss K.tInt (tm (6+4)) (tm (6+5)) 0),mk (some (6+7)) (.move (tm (6+6))),
    gd (6+8) (.move (tm 1)) 7 false,gd (6+9) (.binOp .lss K.tInt (tm (6+8)) (ki .i64 0) 0) 7 false,mk (some (6+10)) (.pick (tm (6+7)) (.const (.bool true)) (tm (6+9)))]) a1 w:=by
  intro b K' Q' hb hK
  refine lf kt ((La 0 aa).trans Ke) hv aa λa2 IR Ja=>?_
  have Jr:=IR.size
  have Ph:a2.get 1=.int .i64 k:=by rw[IR.get 1 aa (.inr ⟨by omega,by omega⟩),La 1 aa];exact IY
  refine gi (n:=r.src.length) (c:=c) (base:=base) (by rw[bp,Ja,Mw]) kt.sl ?_
  refine bv ?_
  rw[bp,b8 aa,Ph]
  refine cZ (b:=decide ((r.src.length:Int)<k)) (p:=(r.src.length:Int)) (q:=k) (k:=.i64) (by rw[bp,b8 aa,bA aa]) (by rw[bp,bA (by simp only[bq];omega)]) (.inr (.inr (.inl ⟨rfl,rfl⟩))) ?_
  refine bv ?_
  rw[bp,bA (by simp only[bq];omega)]
  have IW:Pv 6 0 0 6 a1 ((((a2.put (some (6+4)) (.int .i64 (r.src.length:Int))).put (some (6+5)) (.int .i64 k)).put (some (6+6)) (.bool (decide ((r.src.length:Int)<k)))).put (some (6+7)) (.bool (decide ((r.src.length:Int)<k)))):=
   (((IR.put _ aa).put _ aa).put _ aa).put _ aa
  have Ml:((((a2.put (some (6+4)) (.int .i64 (r.src.length:Int))).put (some (6+5)) (.int .i64 k)).put (some (6+6)) (.bool (decide ((r.src.length:Int)<k)))).put (some (6+7)) (.bool (decide ((r.src.length:Int)<k)))).get (6+7)=.bool (decide ((r.src.length:Int)<k)):=bA (by simp only[bq];omega)
  generalize((((a2.put (some (6+4)) (.int .i64 (r.src.length:Int))).put (some (6+5)) (.int .i64 k)).put (some (6+6)) (.bool (decide ((r.src.length:Int)<k)))).put (some (6+7)) (.bool (decide ((r.src.length:Int)<k))))=A at IW Ml ⊢
  have hsA:=IW.size
  have Oq:A.get 1=.int .i64 k:=by rw[IW.get 1 aa (.inr ⟨by omega,by omega⟩),La 1 aa];exact IY
  have hy:∀ (B:Act),B.tmps.size=A.tmps.size->B.get (6+7)=.bool (decide ((r.src.length:Int)<k))->yielded (jV K 0 6++[bi (some (6+4)) .len [tm (6+3)] [K.tSl] K.tInt,mk (some (6+5)) (.move (tm 1)),mk (some (6+6)) (.binOp .lss K.tInt (tm (6+4)) (tm (6+5)) 0),mk (some (6+7)) (.move (tm (6+6))),
    gd (6+8) (.move (tm 1)) 7 false,gd (6+9) (.binOp .lss K.tInt (tm (6+8)) (ki .i64 0) 0) 7 false,mk (some (6+10)) (.pick (tm (6+7)) (.const (.bool true)) (tm (6+9)))]).toArray B.tmps 7=some (decide ((r.src.length:Int)<k)):=λB hB hg=>
   dz (d:=6+7) (o:=mk (some (6+7)) (.move (tm (6+6)))) rfl rfl aa hg
  by_cases IU:(r.src.length:Int)<k
  ·have hdt:decide ((r.src.length:Int)<k)=true:=by simp[IU]
   rw[hdt]at Ml hy hb
   refine fr (c:=true) (hy A rfl Ml) ab ?_
   refine fr (c:=true) (hy _ (bq _ _ _) (by rw[b8 aa];exact Ml)) ab ?_
   refine ir (b:=true) (by rw[bp,b8 aa,b8 aa];exact Ml) (wpList_nil (hK _ ?_ (((IW.put undef (d:=6+8) aa).put undef (d:=6+9) aa).put _ aa)))
   rw[bp,bA (by simp only[bq];omega),hb]
   rfl
  ·have J3:decide ((r.src.length:Int)<k)=false:=by simp[IU]
   rw[J3]at Ml hy hb
   refine iv (v:=.int .i64 k) (hy A rfl Ml) (by simp only[execOp,mk,bp,Oq];rfl) ?_
   refine iv (v:=.bool (decide (k<0))) (hy _ (bq _ _ _) (by rw[b8 aa];exact Ml)) ?_ ?_
   ·have Oc:(A.put (some (6+8)) (.int .i64 k)).eval (tm (6+8))=.int .i64 k:=by rw[bp];exact bA aa
    have L0:(A.put (some (6+8)) (.int .i64 k)).eval (ki .i64 0)=.int .i64 0:=rfl
    have hg:(eqGuard .lss K.tInt (tm (6+8)) (ki .i64 0) (.int .i64 k) (.int .i64 0)).run P w=.ok () w:=by simp[eqGuard]
    have hr:=jK (P:=P) (w:=w) (T:=K.tInt) (k:=.i64) (p:=k) (q:=0) (op:=.lss) (b:=decide (k<0)) (.inr (.inr (.inl ⟨rfl,rfl⟩)))
    simp only[execOp,mk,Oc,L0,Sem.run_bind,hg,Result.andThen_ok,hr,Sem.run_pure]
   ·refine ir (b:=false) (by rw[bp,b8 aa,b8 aa];exact Ml) (wpList_nil (hK _ ?_ (((IW.put _ (d:=6+8) aa).put _ (d:=6+9) aa).put _ aa)))
    rw[bp,bA (by simp only[bq];omega),hb]
    simp only[ag,ak,bj]
    rw[bp,bA (by simp only[bq];omega)]
 refine bt ?_
 rw[cn]
 by_cases Ju:(r.src.length:Int)<k \/ k<0
 ·have KG:cd k r=(.nul,.fail):=by simp only[cd,Ju,aw]
  rw[KG]
  refine eX (Jh true _ _ (by rcases Ju with h|h<;>simp[h]) λa2 he IR=>⟨he,?_⟩)
  have Jr:=IR.size
  refine uM kt (by rw[IR.get 0 aa (.inr ⟨by omega,by omega⟩),La 0 aa];exact Ke) hv hRS aa aa λa3 w3 Kp Jw JQ IZ=>⟨by rw[Kp,IR.defers,IP.defers];exact KF,.slice none 0 0,?_,JQ,IZ,.inl ⟨rfl,rfl,rfl⟩⟩
  simp only[cE];rw[Jw]
 ·have JM:0<=k:=by omega
  obtain⟨kn,rfl⟩:∃ kn:Nat,k=(kn:Int):=⟨k.toNat,by omega⟩
  have Nd:kn<=r.src.length:=by omega
  have KG:cd (kn:Int) r=(if r.nl then .nul else .s (r.src.take kn),⟨r.src.drop kn,r.bad,r.nl⟩):=by simp only[cd,Ju,ak,Int.toNat_natCast]
  rw[KG]
  refine eK (Jh false _ _ (by simp at Ju ⊢;omega) λa2 he IR=>⟨he,.skip ?_⟩)
  have Jr:=IR.size
  have SE:a2.get 0=pt R 0:=by rw[IR.get 0 aa (.inr ⟨by omega,by omega⟩),La 0 aa];exact Ke
  have Mv:a2.get 1=.int .i64 kn:=by rw[IR.get 1 aa (.inr ⟨by omega,by omega⟩),La 1 aa];exact IY
  show LW P [bL 7 λn=>jV K 0 n++[mk (some (n+4)) (.move (tm 1)),mk (some (n+5)) (.move (tm 1)),mk (some (n+6)) (.slice K.tSl (tm (n+3)) none (some (tm (n+4))) (some (tm (n+5)))),mk (some 5) (.assign (tm (n+6)))],o8 K 1,dg 5 4,cp .ret] 23 _ a2 w
  refine bt (bF (lf kt SE hv aa λa3 IW Jw=>?_))
  have JI:=IW.size
  have KO:a3.get 1=.int .i64 kn:=(IW.get 1 aa (.inr ⟨by omega,by omega⟩)).trans Mv
  have P1:a3.get 0=pt R 0:=(IW.get 0 aa (.inr ⟨by omega,by omega⟩)).trans SE
  refine bv ?_
  rw[bp,KO]
  refine bv ?_
  rw[bp,b8 aa,KO]
  refine vn kt (k:=kn) (by rw[bp,b8 aa,b8 aa];exact Jw) hv.2 (by rw[bp,b8 aa,bA aa]) (by rw[bp,bA (by simp only[bq];omega)]) Nd ?_
  refine b7 (wpList_nil ?_)
  rw[bp,bA (by simp only[bq];omega)]
  have Jp:Pv 5 0 0 23 a3 ((((a3.put (some (23+4)) (.int .i64 kn)).put (some (23+5)) (.int .i64 kn)).put (some (23+6)) (k7 v kn)).put (some 5) (k7 v kn)):=((((Pv.refl _ _ _ _ _).put _ aa).put _ aa).put _ aa).put _ aa
  have Lj:((((a3.put (some (23+4)) (.int .i64 kn)).put (some (23+5)) (.int .i64 kn)).put (some (23+6)) (k7 v kn)).put (some 5) (k7 v kn)).get 5=k7 v kn:=bA (by simp only[bq];omega)
  generalize((((a3.put (some (23+4)) (.int .i64 kn)).put (some (23+5)) (.int .i64 kn)).put (some (23+6)) (k7 v kn)).put (some 5) (k7 v kn))=a4 at Jp Lj ⊢
  have L3:=Jp.size
  refine bt (BM kt (k:=kn) ((Jp.get 0 aa (.inr ⟨by omega,by omega⟩)).trans P1) ((Jp.get 1 aa (.inr ⟨by omega,by omega⟩)).trans KO) hv Nd hRS (by simp only[bL];omega) (by simp only[bL];omega) (by simp only[bL];omega) λa5 Kt OX=>?_)
  simp only[bL]at Kt
  have OV:=Kt.size
  refine bt (gJ (x:=4) (m:=0) (k0:=0) (.inl rfl) (ae _) aa (by simp only[o8,bL];omega) aa λa6 hp6 RN=>bt (.ret ⟨?_,k7 v kn,?_,OX,br.setRow (λk=>k=R) _ _ _ rfl,(hv.2.cap Nd).keep (br.setRow (λk=>k=R) _ _ _ rfl) hRS⟩))
  ·rw[hp6.defers,Kt.defers,Jp.defers,IW.defers,IR.defers,IP.defers];exact KF
  ·simp only[cE]
   rw[RN,Kt.get 5 aa (.inr ⟨by omega,by omega⟩),Lj]
end
theorem Ct {b:Nat}(_h:b<256):b &&& 127=b%128:=by
 have:=Nat.and_two_pow_sub_one_eq_mod b 7
 simpa using this
theorem FJ {b:Nat}(h:b<256):b &&& 128=if b<128 then 0 else 128:=by
 have key:∀ x:Fin 256,x.val &&& 128=if x.val<128 then 0 else 128:=by decide +kernel
 exact key ⟨b,h⟩
section
variable {P:Program} {g:G} {K:Kn} {T S:Nat} {r:RS} {n:Nat} {KK:Act->World->Prop} {Q:Exit->Act->World->Prop} {a:Act} {w:World} {v:Value}
theorem sw {A b m:Nat}(h:b<256)(hm:m<256)(w:World):(binOp .and A (.int .u8 (b:Int)) (.int .u8 (m:Int))).run P w=.ok (.int .u8 ((b &&& m:Nat):Int)) w:=by
 have e1:BitVec.ofInt IntKind.u8.bits (b:Int)=BitVec.ofNat IntKind.u8.bits b:=BitVec.ofInt_natCast ..
 have e2:BitVec.ofInt IntKind.u8.bits (m:Int)=BitVec.ofNat IntKind.u8.bits m:=BitVec.ofInt_natCast ..
 have IU:b &&& m<256:=Nat.lt_of_le_of_lt Nat.and_le_left h
 have e3:(BitVec.ofNat IntKind.u8.bits b &&& BitVec.ofNat IntKind.u8.bits m).toNat=b &&& m:=by
  rw[BitVec.toNat_and,BitVec.toNat_ofNat,BitVec.toNat_ofNat,aW (show b<2^IntKind.u8.bits from h),aW (show m<2^IntKind.u8.bits from hm)]
 have e4:IntKind.u8.wrap ((b &&& m:Nat):Int)=((b &&& m:Nat):Int):=by
  simp only[IntKind.wrap,IntKind.bits,IntKind.signed]
  simp
  omega
 have K5:(IntKind.u8≠IntKind.u8)=False:=by simp
 simp only[binOp,K5,ak,Op.intBits,e1,e2,e3,e4,Sem.run_pure]
theorem mH (kt:KT P g K){ops:Array Oper}{l:List Oper}{i:Nat}{b:UInt8}(h0:a.get 0=v)(hv:dj w S v r)(hi:r.src[i]?=some b)(hn:n+3<=a.tmps.size)(h:∀ a',Pv n 0 0 n a a'->a'.get (n+2)=.int .u8 (b.toNat:Int)->wpList P ops Q l a' w):wpList P ops Q (qz K i n++l) a w:=by
 have Pl:i<r.src.length:=(ah.1 hi).1
 obtain⟨o,c,Mw,Lo⟩:=uc hv aa
 show wpList P ops Q (mk (some n) (.move (tm 0))::mk (some (n+1)) (.indexAddr K.tSl (tm n) (ki .i64 i))::mk (some (n+2)) (.load K.tU8 (tm (n+1)))::l) a w
 refine bv ?_
 rw[bp,h0,Mw]
 refine dJ (i:=i) (k:=.i64) (sz:=1) (by rw[bp,bA aa]) rfl Pl kt.sl (kt.u8.size _) ?_
 refine cL (v:=.int .u8 (b.toNat:Int)) (by rw[bp,bA (by simp only[bq];omega)]) (kt.u8.agg _) (by rw[Nat.mul_one];exact Lo i b hi) ?_
 exact h _ ((((Pv.refl _ _ _ _ _).put _ aa).put _ aa).put _ aa) (bA (by simp only[bq];omega))
theorem xw (kt:KT P g K){k:Nat}(h0:a.get 0=v)(hv:dj w S v r)(hn:n+3<=a.tmps.size)(MP:r.src.length<k->∀ a',Pv n 0 0 n a a'->Q (.goto 0) a' w)(Jf:k<=r.src.length->∀ a',Pv n 0 0 n a a'->Q .normal a' w):cf P (rM K k n).1 Q a w:=by
 obtain⟨base,c,Mw,_⟩:=hv.len
 have key:∀ (b:Bool) (K':Act->World->Prop),b=decide ((r.src.length:Int)<(k:Int))->(∀ a',a'.eval (tm (n+2))=.bool b->Pv n 0 0 n a a'->K' a' w) ->
   wpList P [mk (some n) (.move (tm 0)),bi (some (n+1)) .len [tm n] [K.tSl] K.tInt,mk (some (n+2)) (.binOp .lss K.tInt (tm (n+1)) (ki .i64 k) 0)].toArray (Exit.then K' Q) [mk (some n) (.move (tm 0)),bi (some (n+1)) .len [tm n] [K.tSl] K.tInt,mk (some (n+2)) (.binOp .lss K.tInt (tm (n+1)) (ki .i64 k) 0)] a w:=by
  intro b K' hb hK
  refine bv ?_
  rw[bp,h0,Mw]
  refine gi (by rw[bp,bA aa]) kt.sl ?_
  refine cZ (b:=b) (p:=(r.src.length:Int)) (q:=k) (k:=.i64) (by rw[bp,bA (by simp only[bq];omega)]) rfl (.inr (.inr (.inl ⟨rfl,hb⟩))) (wpList_nil (hK _ (by rw[bp,bA (by simp only[bq];omega)]) ((((Pv.refl _ _ _ _ _).put _ aa).put _ aa).put _ aa)))
 by_cases IU:r.src.length<k
 ·exact eX (key true _ (by simp;omega) λa' he hp=>⟨he,.goto (MP IU a' hp)⟩)
 ·exact eK (key false _ (by simp;omega) λa' he hp=>⟨he,.skip (Jf aa a' hp)⟩)
theorem DC {i acc:Nat}(h4:a.get 4=.int .u32 acc)(hn:n+1<=a.tmps.size)(UT:4<n)(h:∀ a',a'.defers=a.defers->a'.get 2=.int .u32 acc->a'.get 3=.int .i64 i->Q .ret a' w):cf P (CL i n).1 Q a w:=by
 refine cC (bt (bF (bv (b7 (b7 (wpList_nil (bt (.ret (h _ (by simp only[b6]) ?_ ?_)))))))))
 ·rw[b8 aa,bA (by simp only[bq];omega),bp,bA aa,bp,h4]
 ·rw[bA (by simp only[bq];omega)];rfl
theorem rL (kt:KT P g K){i acc:Nat}{b:UInt8}(h0:a.get 0=v)(h4:a.get 4=.int .u32 acc)(hv:dj w S v r)(hi:r.src[i]?=some b)(hn:n+9<=a.tmps.size)(UT:4<n)
  (Ru:b.toNat<128->∀ a',a'.defers=a.defers->a'.get 2=.int .u32 acc->a'.get 3=.int .i64 ((i+1:Nat):Int)->Q .ret a' w) (MP:128<=b.toNat->r.src.length<i+2->∀ a',Pv n 0 0 n a a'->Q (.goto 0) a' w) (Jf:128<=b.toNat->i+2<=r.src.length->∀ a',Pv n 0 0 n a a'->Q .normal a' w) :
  cf P (mY K i n).1 Q a w:=by
 have hb:=UInt8.toNat_lt b
 have key:∀ (c:Bool) (K':Act->World->Prop),c=decide (b.toNat<128)->(∀ a',a'.eval (tm (n+4))=.bool c->Pv n 0 0 n a a'->K' a' w) ->
   wpList P (qz K i n++[mk (some (n+3)) (.binOp .and K.tU8 (tm (n+2)) (ki .u8 128) 0),mk (some (n+4)) (.binOp .eql K.tU8 (tm (n+3)) (ki .u8 0) 0)]).toArray (Exit.then K' Q) (qz K i n++[mk (some (n+3)) (.binOp .and K.tU8 (tm (n+2)) (ki .u8 128) 0),mk (some (n+4)) (.binOp .eql K.tU8 (tm (n+3)) (ki .u8 0) 0)]) a w:=by
  intro c K' hc hK
  refine mH kt h0 hv hi aa λa1 IP IY=>?_
  have IX:=IP.size
  refine ee (k:=.u8) (m:=(b.toNat:Int)) (n:=((128:Nat):Int)) (by rw[bp];exact IY) rfl ab (sw hb aa w) ?_
  rw[FJ hb]
  refine cZ (b:=c) (p:=((if b.toNat<128 then 0 else 128:Nat):Int)) (q:=0) (k:=.u8) (by rw[bp,bA aa]) rfl (.inr (.inr (.inr (.inr (.inl ⟨rfl,?_⟩))))) (wpList_nil (hK _ (by rw[bp,bA (by simp only[bq];omega)]) ((IP.put _ aa).put _ aa)))
  rw[hc]
  by_cases h:b.toNat<128<;>simp[h]
 by_cases IU:b.toNat<128
 ·refine eX (key true _ (by simp[IU]) λa' he hp=>⟨he,?_⟩)
  exact DC ((hp.get 4 aa (.inr ⟨by omega,by omega⟩)).trans h4) (by have:=hp.size;omega) aa λa2 hd Ja Jw=>Ru IU a2 (hd.trans hp.defers) Ja Jw
 ·refine eK (key false _ (by simp[IU]) λa' he hp=>⟨he,?_⟩)
  have hs:=hp.size
  rw[show(CL (i+1) (n+5)).2=n+6 from rfl]
  have Ti:∀ a2,Pv (n+6) 0 0 (n+6) a' a2->Pv n 0 0 n a a2:=λa2 h2=>hp.trans ⟨h2.size,h2.defers,λs hs hh=>h2.get s aa (.inr ⟨by omega,by omega⟩)⟩
  exact xw kt ((hp.get 0 aa (.inr ⟨by omega,by omega⟩)).trans h0) hv aa (λh2 a2 IR=>MP aa h2 a2 (Ti a2 IR)) (λh2 a2 IR=>Jf aa h2 a2 (Ti a2 IR))
theorem CK (kt:KT P g K){b:UInt8}(h0:a.get 0=v)(hv:dj w S v r)(hi:r.src[0]?=some b)(hn:n+5<=a.tmps.size)(UT:5<n)(h:∀ a',Pv 4 0 0 n a a'->a'.get 4=.int .u32 ((b.toNat%128:Nat):Int)->KK a' w):cf P (vD K n).1 (Exit.then KK Q) a w:=by
 have hb:=UInt8.toNat_lt b
 refine bF (mH kt h0 hv hi aa λa1 IP IY=>?_)
 have IX:=IP.size
 refine ee (k:=.u8) (m:=(b.toNat:Int)) (n:=((127:Nat):Int)) (by rw[bp];exact IY) rfl ab (sw hb aa w) ?_
 rw[Ct hb]
 refine ci (k:=.u8) (k':=.u32) (by rw[bp,bA aa]) kt.dU8 kt.dU32 ?_
 rw[iT (.inr (.inl rfl)) (by simp[IntKind.bits];omega)]
 refine b7 (wpList_nil ?_)
 rw[bp,bA (by simp only[bq];omega)]
 have hp:Pv 4 0 0 n a a1:=⟨IP.size,IP.defers,λs hs hh=>IP.get s aa (.inr ⟨by omega,by omega⟩)⟩
 exact h _ (((hp.put _ aa).put _ aa).put _ aa) (bA (by simp only[bq];omega))
theorem vA (kt:KT P g K){i s acc:Nat}{b:UInt8}(h0:a.get 0=v)(h4:a.get 4=.int .u32 acc)(LC:acc<2^s)(hs:s+8<=32)(hv:dj w S v r)(hi:r.src[i]?=some b)(hn:n+8<=a.tmps.size)(UT:5<n)
  (h:∀ a',Pv 4 0 0 n a a'->a'.get 4=.int .u32 ((b.toNat%128*2^s+acc:Nat):Int)->KK a' w):cf P (pz K i s n).1 (Exit.then KK Q) a w:=by
 have hb:=UInt8.toNat_lt b
 have hm:b.toNat%128<256:=by omega
 refine bF (bv ?_)
 rw[bp,h4]
 refine mH kt (by rw[b8 aa];exact h0) hv hi (by simp only[bq];omega) λa1 IP IY=>?_
 have IX:=IP.size
 rw[bq]at IX
 have PD:a1.get n=.int .u32 acc:=by rw[IP.get n aa (.inr ⟨by omega,by omega⟩),bA aa]
 have hp:Pv 4 0 0 n a a1:=((Pv.refl 4 0 0 n a).put (.int .u32 acc) aa).trans ⟨IP.size,IP.defers,λs hs hh=>IP.get s aa (.inr ⟨by omega,by omega⟩)⟩
 refine ee (k:=.u8) (m:=(b.toNat:Int)) (n:=((127:Nat):Int)) (by rw[bp];exact IY) rfl ab (sw hb aa w) ?_
 rw[Ct hb]
 refine ci (k:=.u8) (k':=.u32) (by rw[bp,bA aa]) kt.dU8 kt.dU32 ?_
 rw[iT (.inr (.inl rfl)) (by simp[IntKind.bits];omega)]
 refine bP (v:=.int .u32 ((b.toNat%128*2^s:Nat):Int)) (w':=w) ?_ ?_
 ·have e1:∀ B:Act,B.eval (ki .u64 (s:Int))=.int .u64 (s:Int):=λ_=>rfl
  have e2:(((a1.put (some (n+4)) (.int .u8 ((b.toNat%128:Nat):Int))).put (some (n+5)) (.int .u32 ((b.toNat%128:Nat):Int)))).eval (tm (n+5))=.int .u32 ((b.toNat%128:Nat):Int):=by rw[bp,bA (by simp only[bq];omega)]
  have hr:=xK (P:=P) (A:=K.tU32) (.inr (.inl rfl)) hm (show s+8<=IntKind.u32.bits by simpa[IntKind.bits]using hs) w
  have hg:(eqGuard .shl K.tU32 (tm (n+5)) (ki .u64 (s:Int)) (.int .u32 ((b.toNat%128:Nat):Int)) (.int .u64 (s:Int))).run P w=.ok () w:=by simp[eqGuard]
  simp only[execOp,mk,e1,e2,Sem.run_bind,hg,Result.andThen_ok,hr,Sem.run_pure]
 refine ee (k:=.u32) (m:=(acc:Int)) (n:=((b.toNat%128*2^s:Nat):Int)) (by rw[bp,b8 aa,b8 aa,b8 aa];exact PD) (by rw[bp,bA (by simp only[bq];omega)]) ab
  (AH (.inr (.inl rfl)) LC hm (by simpa[IntKind.bits]using hs) w) ?_
 refine b7 (wpList_nil ?_)
 rw[bp,bA (by simp only[bq];omega)]
 exact h _ (((((hp.put _ aa).put _ aa).put _ aa).put _ aa).put _ aa) (bA (by simp only[bq];omega))
end
section
variable {P:Program} {g:G} {K:Kn} {T S R:Nat} {r:RS} {n:Nat} {KK:Act->World->Prop} {Q:Exit->Act->World->Prop} {a:Act} {w:World} {v:Value}
theorem yL {A b:Nat}(w:World):(binOp .shl A (.int .u32 (b:Int)) (.int .u64 28)).run P w=.ok (.int .u32 ((b%16*2^28:Nat):Int)) w:=by
 have h5:IntKind.u32.wrap ((b:Int)*2^28)=((b%16*2^28:Nat):Int):=by
  simp[IntKind.wrap,IntKind.bits,IntKind.signed]
  omega
 have h1:¬ ((28:Int)<0):=by omega
 have h2:min (28:Int).toNat IntKind.u32.bits=28:=by simp[IntKind.bits]
 simp only[binOp,Op.shift,h1,ak,h2,h5,Sem.run_pure]
theorem AG {A acc b:Nat}(ha:acc<2^28)(hb:b<16)(w:World):(binOp .or A (.int .u32 (acc:Int)) (.int .u32 ((b*2^28:Nat):Int))).run P w=.ok (.int .u32 ((b*2^28+acc:Nat):Int)) w:=by
 have h3:b*2^28+acc<2^IntKind.u32.bits:=by simp only[IntKind.bits];omega
 have e1:BitVec.ofInt IntKind.u32.bits (acc:Int)=BitVec.ofNat IntKind.u32.bits acc:=BitVec.ofInt_natCast ..
 have e2:BitVec.ofInt IntKind.u32.bits ((b*2^28:Nat):Int)=BitVec.ofNat IntKind.u32.bits (b*2^28):=BitVec.ofInt_natCast ..
 have e3:acc ||| b*2^28=b*2^28+acc:=by
  rw[Nat.or_comm,Nat.mul_comm,<- Nat.two_pow_add_eq_or_of_lt ha]
 have e4:(BitVec.ofNat IntKind.u32.bits acc ||| BitVec.ofNat IntKind.u32.bits (b*2^28)).toNat=b*2^28+acc:=by
  rw[BitVec.toNat_or,BitVec.toNat_ofNat,BitVec.toNat_ofNat,aW (Nat.lt_of_le_of_lt (Nat.le_add_left _ _) h3),aW (Nat.lt_of_le_of_lt (Nat.le_add_right _ _) h3),e3]
 have K5:(IntKind.u32≠IntKind.u32)=False:=by simp
 simp only[binOp,K5,ak,Op.intBits,e1,e2,e4,iT (.inr (.inl rfl)) h3,Sem.run_pure]
theorem E8 (kt:KT P g K){acc:Nat}{b:UInt8}(h0:a.get 0=v)(h4:a.get 4=.int .u32 acc)(LC:acc<2^28)(hv:dj w S v r)(hi:r.src[4]?=some b)(hn:n+7<=a.tmps.size)(UT:5<n)
  (h:∀ a',Pv 4 0 0 n a a'->a'.get 4=.int .u32 ((b.toNat%16*2^28+acc:Nat):Int)->KK a' w):cf P (Ao K n).1 (Exit.then KK Q) a w:=by
 have hb:=UInt8.toNat_lt b
 refine bF (bv ?_)
 rw[bp,h4]
 refine mH kt (by rw[b8 aa];exact h0) hv hi (by simp only[bq];omega) λa1 IP IY=>?_
 have IX:=IP.size
 rw[bq]at IX
 have PD:a1.get n=.int .u32 acc:=by rw[IP.get n aa (.inr ⟨by omega,by omega⟩),bA aa]
 have hp:Pv 4 0 0 n a a1:=((Pv.refl 4 0 0 n a).put (.int .u32 acc) aa).trans ⟨IP.size,IP.defers,λs hs hh=>IP.get s aa (.inr ⟨by omega,by omega⟩)⟩
 refine ci (k:=.u8) (k':=.u32) (by rw[bp];exact IY) kt.dU8 kt.dU32 ?_
 rw[iT (.inr (.inl rfl)) (by simp[IntKind.bits];omega)]
 refine bP (v:=.int .u32 ((b.toNat%16*2^28:Nat):Int)) (w':=w) ?_ ?_
 ·have e1:∀ B:Act,B.eval (ki .u64 28)=.int .u64 28:=λ_=>rfl
  have e2:(a1.put (some (n+4)) (.int .u32 (b.toNat:Int))).eval (tm (n+4))=.int .u32 (b.toNat:Int):=by rw[bp,bA aa]
  have hr:=yL (P:=P) (A:=K.tU32) (b:=b.toNat) w
  have hg:(eqGuard .shl K.tU32 (tm (n+4)) (ki .u64 28) (.int .u32 (b.toNat:Int)) (.int .u64 28)).run P w=.ok () w:=by simp[eqGuard]
  simp only[execOp,mk,e1,e2,Sem.run_bind,hg,Result.andThen_ok,hr,Sem.run_pure]
 refine ee (k:=.u32) (m:=(acc:Int)) (n:=((b.toNat%16*2^28:Nat):Int)) (by rw[bp,b8 aa,b8 aa];exact PD) (by rw[bp,bA (by simp only[bq];omega)]) ab
  (AG LC aa w) ?_
 refine b7 (wpList_nil ?_)
 rw[bp,bA (by simp only[bq];omega)]
 exact h _ ((((hp.put _ aa).put _ aa).put _ aa).put _ aa) (bA (by simp only[bq];omega))
theorem Gd (kt:KT P g K){acc:Nat}{b:UInt8}(h0:a.get 0=v)(h4:a.get 4=.int .u32 acc)(hv:dj w S v r)(hi:r.src[4]?=some b)(hn:n+6<=a.tmps.size)(UT:4<n)
  (Ru:b.toNat<=15->∀ a',a'.defers=a.defers->a'.get 2=.int .u32 acc->a'.get 3=.int .i64 5->Q .ret a' w) (Jf:¬ b.toNat<=15->∀ a',Pv n 0 0 n a a'->Q .normal a' w):cf P (E9 K n).1 Q a w:=by
 have key:∀ (c:Bool) (K':Act->World->Prop),c=decide ((b.toNat:Int)<=15)->(∀ a',a'.eval (tm (n+3))=.bool c->Pv n 0 0 n a a'->K' a' w) ->
   wpList P (qz K 4 n++[mk (some (n+3)) (.binOp .leq K.tU8 (tm (n+2)) (ki .u8 15) 0)]).toArray (Exit.then K' Q) (qz K 4 n++[mk (some (n+3)) (.binOp .leq K.tU8 (tm (n+2)) (ki .u8 15) 0)]) a w:=by
  intro c K' hc hK
  refine mH kt h0 hv hi aa λa1 IP IY=>?_
  have IX:=IP.size
  refine cZ (b:=c) (p:=(b.toNat:Int)) (q:=15) (k:=.u8) (by rw[bp];exact IY) rfl (.inr (.inl ⟨rfl,hc⟩)) (wpList_nil (hK _ (by rw[bp,bA aa]) (IP.put _ aa)))
 by_cases IU:b.toNat<=15
 ·refine eX (key true _ (by simp;omega) λa' he hp=>⟨he,?_⟩)
  exact DC ((hp.get 4 aa (.inr ⟨by omega,by omega⟩)).trans h4) (by have:=hp.size;omega) aa λa2 hd Ja Jw=>Ru IU a2 (hd.trans hp.defers) Ja Jw
 ·exact eK (key false _ (by simp;omega) λa' he hp=>⟨he,.skip (Jf IU a' hp)⟩)
def Eu (src:Bs)(a:Act):Prop:=a.defers=[]/\a.get 2=.int .u32 ((cu src).1:Int)/\a.get 3=.int .i64 (cu src).2
structure US (v:Value)(ntmps acc:Nat)(a:Act):Prop where
 g0:a.get 0=v
 g4:a.get 4=.int .u32 acc
 g5:a.get 5=.int .i64 0
 size:a.tmps.size=ntmps
 defers:a.defers=[]
theorem US.pv {v:Value}{ntmps acc:Nat}{a a':Act}{n:Nat}(h:US v ntmps acc a)(hp:Pv n 0 0 n a a')(hn:5<n):US v ntmps acc a':=
 ⟨(hp.get 0 aa (.inr ⟨by omega,by omega⟩)).trans h.g0,(hp.get 4 aa (.inr ⟨by omega,by omega⟩)).trans h.g4,(hp.get 5 aa (.inr ⟨by omega,by omega⟩)).trans h.g5,hp.size.trans h.size,hp.defers.trans h.defers⟩
theorem US.next {v:Value}{ntmps acc acc':Nat}{a a':Act}{n:Nat}(h:US v ntmps acc a)(hp:Pv 4 0 0 n a a')(hn:5<n)(h4:a'.get 4=.int .u32 acc'):US v ntmps acc' a':=
 ⟨(hp.get 0 aa (.inr ⟨by omega,by omega⟩)).trans h.g0,h4,(hp.get 5 aa (.inr ⟨by omega,by omega⟩)).trans h.g5,hp.size.trans h.size,hp.defers.trans h.defers⟩
def DD:List GC:=[bL 1 λn=>[mk (some n) (.move (tm 5)),mk (some 2) (.assign (ki .u32 0)),mk (some 3) (.assign (tm n))],cp .ret]
theorem An {x:Int}{J:Act->World->Prop}{E:Act->World->Prop}(h5:a.get 5=.int .i64 x)(hn:n+1<=a.tmps.size)(h5n:5<n)(h:∀ a',a'.defers=a.defers->a'.get 2=.int .u32 0->a'.get 3=.int .i64 x->E a' w) :
  LW P DD n (Exit.jump 0 J (Rt (λ_ _=>False) E)) a w:=by
 refine bt (bF (bv (b7 (b7 (wpList_nil (bt (.ret (h _ (by simp only[b6]) ?_ ?_))))))))
 ·rw[b8 aa,bA (by simp only[bq];omega)];rfl
 ·rw[bA (by simp only[bq];omega),bp,b8 aa,bA aa,bp,h5]
theorem y5 (K:Kn):findLabel (sq (gL (EA K) 6).1) 0=some (.seq .skip (sq (gL DD 86).1)):=rfl
theorem vy (kt:KT P g K){f ntmps:Nat}(hfn:FnIs P f ntmps [2,3] (cUvIn K))(Jg:87<=ntmps)(hv:dj w S v r):Calls P f #[v] w λe w'=>e=.returned (.tuple #[.int .u32 ((cu r.src).1:Int),.int .i64 (cu r.src).2])/\w'=w:=by
 refine hfn.calls kt.mixed ab ?_
 refine lV (K:=λ_ _=>False) (E:=λa' w'=>Eu r.src a'/\w'=w) ?_ (λ_ _ h=>h.elim) (λa' w' h=>⟨h.1.1,by simp only[cE];rw[show([2,3]:List Nat).map a'.get=[a'.get 2,a'.get 3] from rfl,h.1.2.1,h.1.2.2],h.2⟩)
 have Jc:=dw #[v] ntmps (by show 1<=ntmps;omega)
 have Ke:({ tmps:=#[v]++Array.replicate (ntmps-(#[v]:Array Value).size) undef,defers:=[] }:Act).get 0=v:=by rw[db _ _ _ ab];rfl
 have KF:({ tmps:=#[v]++Array.replicate (ntmps-(#[v]:Array Value).size) undef,defers:=[] }:Act).defers=[]:=rfl
 have hsz':({ tmps:=#[v]++Array.replicate (ntmps-(#[v]:Array Value).size) undef,defers:=[] }:Act).tmps.size=ntmps:=Jc
 generalize({ tmps:=#[v]++Array.replicate (ntmps-(#[v]:Array Value).size) undef,defers:=[] }:Act)=a at Ke KF hsz' ⊢
 refine .seq (R:=Rt (λa' w'=>a'.get 0=v/\a'.tmps.size=ntmps/\a'.defers=[]/\w'=w) (λ_ _=>False)) (.reg (b7 (b7 (wpList_nil ⟨?_,?_,?_,rfl⟩)))) (λa1 w1 hh=>?_) (λe a w he hq=>by cases e<;>first|exact absurd rfl he|exact hq.elim)
 ·rw[b8 aa,b8 aa];exact Ke
 ·simp only[bq];exact hsz'
 ·simp only[b6];exact KF
 obtain⟨IY,IX,Ma,rfl⟩:=hh
 refine .scope 0 (λa' w'=>a'.get 5=.int .i64 0/\a'.tmps.size=ntmps/\a'.defers=[]/\cu r.src=(0,0)/\w'=w1) (λ_ _=>0) (y5 K) ?_ (λa' w' hJ=>?_)
 ·show LW P (EA K) 6 (Exit.jump 0 (λa' w'=>a'.get 5=.int .i64 0/\a'.tmps.size=ntmps/\a'.defers=[]/\cu r.src=(0,0)/\w'=w1) (Rt (λ_ _=>False) (λa' w'=>Eu r.src a'/\w'=w1))) a1 w1
  refine bt (eW (x:=4) (m:=0) (k0:=0) (.inl rfl) aa λa2 IR hg42=>?_)
  refine bt (eW (x:=5) (m:=0) (k0:=0) (.inl rfl) (by have:=IR.size;omega) λa3 IW Xi=>?_)
  have hU:US v ntmps 0 a3:=⟨(IW.get 0 aa (.inr ⟨by omega,by simp[co,bL]⟩)).trans ((IR.get 0 aa (.inr ⟨by omega,by omega⟩)).trans IY),(IW.get 4 aa (.inr ⟨by omega,by simp[co,bL]⟩)).trans hg42,Xi,IW.size.trans (IR.size.trans IX),IW.defers.trans (IR.defers.trans Ma)⟩
  rw[show(co 5 (.int .i64 0) (co 4 (.int .u32 0) 6).2).2=6 from rfl]
  refine bt (xw (n:=6) kt hU.g0 hv (by have:=hU.size;omega) (λIU a' hp=>⟨rfl,(hU.pv hp aa).g5,(hU.pv hp aa).size,(hU.pv hp aa).defers,?_,rfl⟩) (λJj a4 Jp=>?_))
  ·have:r.src=[]:=by cases hh:r.src with|nil=>rfl|cons b t=>rw[hh]at IU;simp at IU
   rw[this];rfl
  have XO:=hU.pv Jp aa
  obtain⟨b0,t0,LU⟩:=lP Jj
  have Sl:=UInt8.toNat_lt b0
  rw[show(rM K 1 6).2=9 from rfl]
  refine bt (CK (n:=9) (b:=b0) kt XO.g0 hv (by rw[LU];rfl) (by have:=XO.size;omega) aa λa5 Kt Lj=>?_)
  have QS:=XO.next Kt aa Lj
  rw[show(vD K 9).2=14 from rfl]
  refine bt (rL (n:=14) (i:=0) (b:=b0) kt QS.g0 QS.g4 hv (by rw[LU];rfl) (by have:=QS.size;omega) aa (λIU a' hd' h2' h3'=>⟨⟨hd'.trans QS.defers,?_,?_⟩,rfl⟩) (λJN IU a' hp=>⟨rfl,(QS.pv hp aa).g5,(QS.pv hp aa).size,(QS.pv hp aa).defers,?_,rfl⟩) (λhge0 TB c0 P4=>?_))
  ·rw[h2',LU];simp only[cu, IU,aw];congr 2;omega
  ·rw[h3',LU];simp only[cu, IU,aw];rfl
  ·have ht:t0=[]:=by cases hh:t0 with|nil=>rfl|cons b t=>rw[LU,hh]at IU;simp only[List.length_cons]at IU;omega
   rw[LU,ht];simp only[cu,show ¬ b0.toNat<128 by omega,ak]
  obtain⟨b1,t1,O5⟩:=lP (show 1<=t0.length by rw[LU]at TB;simp at TB;omega)
  have IX:r.src=b0::b1::t1:=by rw[LU,O5]
  have J2:=UInt8.toNat_lt b1
  have Vv:=QS.pv P4 aa
  rw[show(mY K 0 14).2=23 from rfl]
  refine bt (vA (n:=23) (i:=1) (s:=7) (acc:=b0.toNat%128) (b:=b1) kt Vv.g0 Vv.g4 aa aa hv (by rw[IX];rfl) (by have:=Vv.size;omega) aa λd0 Vf hg10=>?_)
  have PK:=Vv.next Vf aa hg10
  rw[show(pz K 1 7 23).2=31 from rfl]
  refine bt (rL (n:=31) (i:=1) (b:=b1) kt PK.g0 PK.g4 hv (by rw[IX];rfl) (by have:=PK.size;omega) aa (λIU a' hd' h2' h3'=>⟨⟨hd'.trans PK.defers,?_,?_⟩,rfl⟩) (λJN IU a' hp=>⟨rfl,(PK.pv hp aa).g5,(PK.pv hp aa).size,(PK.pv hp aa).defers,?_,rfl⟩) (λhge1 TA c1 La=>?_))
  ·rw[h2',IX];simp only[cu,show ¬ b0.toNat<128 by omega,IU,aw,ak];congr 2;omega
  ·rw[h3',IX];simp only[cu,show ¬ b0.toNat<128 by omega,IU,aw,ak];rfl
  ·have ht:t1=[]:=by cases hh:t1 with|nil=>rfl|cons b t=>rw[IX,hh]at IU;simp only[List.length_cons]at IU;omega
   rw[IX,ht];simp only[cu,show ¬ b0.toNat<128 by omega,show ¬ b1.toNat<128 by omega,ak]
  obtain⟨b2,t2,Vb⟩:=lP (show 1<=t1.length by rw[IX]at TA;simp at TA;omega)
  have Jr:r.src=b0::b1::b2::t2:=by rw[IX,Vb]
  have JH:=UInt8.toNat_lt b2
  have Vu:=PK.pv La aa
  rw[show(mY K 1 31).2=40 from rfl]
  refine bt (vA (n:=40) (i:=2) (s:=14) (acc:=(b1.toNat%128*2^7+b0.toNat%128)) (b:=b2) kt Vu.g0 Vu.g4 aa aa hv (by rw[Jr];rfl) (by have:=Vu.size;omega) aa λd1 Wn Pn=>?_)
  have QO:=Vu.next Wn aa Pn
  rw[show(pz K 2 14 40).2=48 from rfl]
  refine bt (rL (n:=48) (i:=2) (b:=b2) kt QO.g0 QO.g4 hv (by rw[Jr];rfl) (by have:=QO.size;omega) aa (λIU a' hd' h2' h3'=>⟨⟨hd'.trans QO.defers,?_,?_⟩,rfl⟩) (λJN IU a' hp=>⟨rfl,(QO.pv hp aa).g5,(QO.pv hp aa).size,(QO.pv hp aa).defers,?_,rfl⟩) (λhge2 R9 c2 MI=>?_))
  ·rw[h2',Jr];simp only[cu,show ¬ b0.toNat<128 by omega,show ¬ b1.toNat<128 by omega,IU,aw,ak];congr 2;omega
  ·rw[h3',Jr];simp only[cu,show ¬ b0.toNat<128 by omega,show ¬ b1.toNat<128 by omega,IU,aw,ak];rfl
  ·have ht:t2=[]:=by cases hh:t2 with|nil=>rfl|cons b t=>rw[Jr,hh]at IU;simp only[List.length_cons]at IU;omega
   rw[Jr,ht];simp only[cu,show ¬ b0.toNat<128 by omega,show ¬ b1.toNat<128 by omega,show ¬ b2.toNat<128 by omega,ak]
  obtain⟨b3,t3,Va⟩:=lP (show 1<=t2.length by rw[Jr]at R9;simp at R9;omega)
  have JI:r.src=b0::b1::b2::b3::t3:=by rw[Jr,Va]
  have Mp:=UInt8.toNat_lt b3
  have Vt:=QO.pv MI aa
  rw[show(mY K 2 48).2=57 from rfl]
  refine bt (vA (n:=57) (i:=3) (s:=21) (acc:=(b2.toNat%128*2^14+(b1.toNat%128*2^7+b0.toNat%128))) (b:=b3) kt Vt.g0 Vt.g4 aa aa hv (by rw[JI];rfl) (by have:=Vt.size;omega) aa λd2 Tf hg12=>?_)
  have Py:=Vt.next Tf aa hg12
  rw[show(pz K 3 21 57).2=65 from rfl]
  refine bt (rL (n:=65) (i:=3) (b:=b3) kt Py.g0 Py.g4 hv (by rw[JI];rfl) (by have:=Py.size;omega) aa (λIU a' hd' h2' h3'=>⟨⟨hd'.trans Py.defers,?_,?_⟩,rfl⟩) (λJN IU a' hp=>⟨rfl,(Py.pv hp aa).g5,(Py.pv hp aa).size,(Py.pv hp aa).defers,?_,rfl⟩) (λTZ T9 c3 Ol=>?_))
  ·rw[h2',JI];simp only[cu,show ¬ b0.toNat<128 by omega,show ¬ b1.toNat<128 by omega,show ¬ b2.toNat<128 by omega,IU,aw,ak];congr 2;omega
  ·rw[h3',JI];simp only[cu,show ¬ b0.toNat<128 by omega,show ¬ b1.toNat<128 by omega,show ¬ b2.toNat<128 by omega,IU,aw,ak];rfl
  ·have ht:t3=[]:=by cases hh:t3 with|nil=>rfl|cons b t=>rw[JI,hh]at IU;simp only[List.length_cons]at IU;omega
   rw[JI,ht];simp only[cu,show ¬ b0.toNat<128 by omega,show ¬ b1.toNat<128 by omega,show ¬ b2.toNat<128 by omega,show ¬ b3.toNat<128 by omega,ak]
  obtain⟨b4,t4,Q7⟩:=lP (show 1<=t3.length by rw[JI]at T9;simp at T9;omega)
  have L3:r.src=b0::b1::b2::b3::b4::t4:=by rw[JI,Q7]
  have Vs:=UInt8.toNat_lt b4
  have SD:=Py.pv Ol aa
  rw[show(mY K 3 65).2=74 from rfl]
  refine bt (E8 (n:=74) (acc:=(b3.toNat%128*2^21+(b2.toNat%128*2^14+(b1.toNat%128*2^7+b0.toNat%128)))) (b:=b4) kt SD.g0 SD.g4 aa hv (by rw[L3];rfl) (by have:=SD.size;omega) aa λd3 Wm Ml=>?_)
  have NT:=SD.next Wm aa Ml
  rw[show(Ao K 74).2=81 from rfl]
  refine bt (Gd (n:=81) (b:=b4) kt NT.g0 NT.g4 hv (by rw[L3];rfl) (by have:=NT.size;omega) aa (λIU a' hd' h2' h3'=>⟨⟨hd'.trans NT.defers,?_,?_⟩,rfl⟩) (λOC e1 hq4=>?_))
  ·rw[h2',L3];simp only[cu,show ¬ b0.toNat<128 by omega,show ¬ b1.toNat<128 by omega,show ¬ b2.toNat<128 by omega,show ¬ b3.toNat<128 by omega,IU,aw,ak];congr 2;omega
  ·rw[h3',L3];simp only[cu,show ¬ b0.toNat<128 by omega,show ¬ b1.toNat<128 by omega,show ¬ b2.toNat<128 by omega,show ¬ b3.toNat<128 by omega,IU,aw,ak]
  have Sq:=NT.pv hq4 aa
  rw[show(E9 K 81).2=86 from rfl]
  refine bt (eW (x:=5) (m:=0) (k0:=0) (.inl rfl) (by have:=Sq.size;omega) λe2 hr4 hg54=>bt (.label ?_))
  rw[show(cp (.label 0) (co 5 (.int .i64 (-5)) 86).2).2=86 from rfl]
  refine An (x:=-5) hg54 (by have:=hr4.size;have:=Sq.size;omega) aa λe3 Kp h23 h33=>⟨⟨Kp.trans (hr4.defers.trans Sq.defers),?_,?_⟩,rfl⟩
  ·rw[h23,L3];simp only[cu,show ¬ b0.toNat<128 by omega,show ¬ b1.toNat<128 by omega,show ¬ b2.toNat<128 by omega,show ¬ b3.toNat<128 by omega,OC,ak];rfl
  ·rw[h33,L3];simp only[cu,show ¬ b0.toNat<128 by omega,show ¬ b1.toNat<128 by omega,show ¬ b2.toNat<128 by omega,show ¬ b3.toNat<128 by omega,OC,ak]
 ·obtain⟨h5,hs,hd,hu,rfl⟩:=hJ
  refine .seq (R:=Rt (λa'' w''=>a''=a'/\w''=w') (λ_ _=>False)) (.skip ⟨rfl,rfl⟩) (λa2 w2 hh=>?_) (λe a w he hq=>by cases e<;>first|exact absurd rfl he|exact hq.elim)
  obtain⟨rfl,rfl⟩:=hh
  exact An h5 aa aa λa3 Kp h2 h3=>⟨⟨Kp.trans hd,by rw[h2,hu];rfl,by rw[h3,hu]⟩,rfl⟩
end
theorem vw (l:Bs):(cu l).2<=(l.length:Int):=by
 unfold cu
 split
 ·simp
 ·split
  ·simp only[List.length_cons];omega
  ·split
   ·simp
   ·split
    ·simp only[List.length_cons];omega
    ·split
     ·simp
     ·split
      ·simp only[List.length_cons];omega
      ·split
       ·simp
       ·split
        ·simp only[List.length_cons];omega
        ·split
         ·simp
         ·split
          ·simp only[List.length_cons];omega
          ·simp only[List.length_cons];omega
section
variable {P:Program} {g:G} {K:Kn} {T S R:Nat} {r:RS} {w:World}
theorem uv_calls (kt:KT P g K){f ntmps nIn:Nat}(Zs:FnIs P K.fUv nIn [2,3] (cUvIn K))(WB:87<=nIn)(hfn:FnIs P f ntmps [2] (cUv K))(Jg:31<=ntmps)(hR:ep w T S R r)(hRS:S≠R) :
  Calls P f #[pt R 0] w λe w'=>e=.returned (.int .u32 (bZ r).1)/\ep w' T S R (bZ r).2/\br (·=R) w w':=by
 refine jl kt.mixed hfn aa λa h0 hs hd=>?_
 obtain⟨v,hv⟩:=hR
 refine bt (eW (x:=2) (m:=0) (k0:=0) (.inl rfl) aa λa1 IP _=>?_)
 have IX:=IP.size
 rw[show(co 2 (.int .u32 0) 6).2=6 from rfl]
 refine bt (bF (lf kt (g9 IP h0 aa aa) hv aa λa2 IR Ja=>?_))
 have Jr:=IR.size
 refine cj (vs:=#[v]) Zs.ent (by simp[bp,Ja]) (vy kt Zs WB hv.2) λe w' Kr=>?_
 obtain⟨he,rfl⟩:=Kr
 refine⟨_,he,?_⟩
 generalize hx:(cu r.src).1=x
 generalize hy:(cu r.src).2=y
 refine bv ?_
 rw[bp,bA aa]
 refine bP (v:=.int .u32 (x:Int)) (w':=w') ?_ ?_
 ·have:((a2.put (some (6+4)) (.tuple #[.int .u32 (x:Int),.int .i64 y])).put (some 5) (.tuple #[.int .u32 (x:Int),.int .i64 y])).eval (tm 5)=.tuple #[.int .u32 (x:Int),.int .i64 y]:=by rw[bp,bA (by simp only[bq];omega)]
  simp[execOp,mk,this,Instr.extract]
 refine bP (v:=.int .i64 y) (w':=w') ?_ ?_
 ·have:(((a2.put (some (6+4)) (.tuple #[.int .u32 (x:Int),.int .i64 y])).put (some 5) (.tuple #[.int .u32 (x:Int),.int .i64 y])).put (some (6+5)) (.int .u32 (x:Int))).eval (tm 5)=.tuple #[.int .u32 (x:Int),.int .i64 y]:=by rw[bp,b8 aa,bA (by simp only[bq];omega)]
  simp[execOp,mk,this,Instr.extract]
 refine b7 (b7 (wpList_nil ?_))
 rw[bp,b8 aa,bA (by simp only[bq];omega),bp,b8 aa,bA (by simp only[bq];omega)]
 have e0:((((((a2.put (some (6+4)) (.tuple #[.int .u32 (x:Int),.int .i64 y])).put (some 5) (.tuple #[.int .u32 (x:Int),.int .i64 y])).put (some (6+5)) (.int .u32 (x:Int))).put (some (6+6)) (.int .i64 y)).put (some 3) (.int .u32 (x:Int))).put (some 4) (.int .i64 y)).get 0=pt R 0:=by
  rw[b8 aa,b8 aa,b8 aa,b8 aa,b8 aa,b8 aa]
  exact g9 IR (g9 IP h0 aa aa) aa aa
 have e3:((((((a2.put (some (6+4)) (.tuple #[.int .u32 (x:Int),.int .i64 y])).put (some 5) (.tuple #[.int .u32 (x:Int),.int .i64 y])).put (some (6+5)) (.int .u32 (x:Int))).put (some (6+6)) (.int .i64 y)).put (some 3) (.int .u32 (x:Int))).put (some 4) (.int .i64 y)).get 3=.int .u32 (x:Int):=by
  rw[b8 aa,bA (by simp only[bq];omega)]
 have e4:((((((a2.put (some (6+4)) (.tuple #[.int .u32 (x:Int),.int .i64 y])).put (some 5) (.tuple #[.int .u32 (x:Int),.int .i64 y])).put (some (6+5)) (.int .u32 (x:Int))).put (some (6+6)) (.int .i64 y)).put (some 3) (.int .u32 (x:Int))).put (some 4) (.int .i64 y)).get 4=.int .i64 y:=bA (by simp only[bq];omega)
 have es:((((((a2.put (some (6+4)) (.tuple #[.int .u32 (x:Int),.int .i64 y])).put (some 5) (.tuple #[.int .u32 (x:Int),.int .i64 y])).put (some (6+5)) (.int .u32 (x:Int))).put (some (6+6)) (.int .i64 y)).put (some 3) (.int .u32 (x:Int))).put (some 4) (.int .i64 y)).tmps.size=ntmps:=by simp only[bq];omega
 have ed:((((((a2.put (some (6+4)) (.tuple #[.int .u32 (x:Int),.int .i64 y])).put (some 5) (.tuple #[.int .u32 (x:Int),.int .i64 y])).put (some (6+5)) (.int .u32 (x:Int))).put (some (6+6)) (.int .i64 y)).put (some 3) (.int .u32 (x:Int))).put (some 4) (.int .i64 y)).defers=[]:=by
  simp only[b6];rw[IR.defers,IP.defers];exact hd
 generalize((((((a2.put (some (6+4)) (.tuple #[.int .u32 (x:Int),.int .i64 y])).put (some 5) (.tuple #[.int .u32 (x:Int),.int .i64 y])).put (some (6+5)) (.int .u32 (x:Int))).put (some (6+6)) (.int .i64 y)).put (some 3) (.int .u32 (x:Int))).put (some 4) (.int .i64 y))=a3 at e0 e3 e4 es ed ⊢
 show LW P [gb 1 2 (λn=>[mk (some n) (.move (tm 4)),mk (some (n+1)) (.binOp .leq K.tInt (tm n) (ki .i64 0) 0)]) (uO K (.int .u32 0)) cY,o8 K 4,dg 3 2,cp .ret] 13 _ a3 w'
 refine bt ?_
 rw[cn]
 have key:∀ (b:Bool) (K':Act->World->Prop) (Q':Exit->Act->World->Prop),b=decide (y<=0)->(∀ a',a'.eval (tm (13+1))=.bool b->Pv 13 0 0 13 a3 a'->K' a' w') ->
   wpList P [mk (some 13) (.move (tm 4)),mk (some (13+1)) (.binOp .leq K.tInt (tm 13) (ki .i64 0) 0)].toArray (Exit.then K' Q') [mk (some 13) (.move (tm 4)),mk (some (13+1)) (.binOp .leq K.tInt (tm 13) (ki .i64 0) 0)] a3 w':=by
  intro b K' Q' hb hK
  refine bv ?_
  rw[bp,e4]
  refine cZ (b:=b) (p:=y) (q:=0) (k:=.i64) (by rw[bp,bA aa]) rfl (.inr (.inl ⟨rfl,hb⟩)) (wpList_nil (hK _ ?_ (((Pv.refl _ _ _ _ _).put _ aa).put _ aa)))
  rw[bp,bA (by simp only[bq];omega)]
 by_cases Jj:y<=0
 ·have hr:bZ r=(0,.fail):=by simp only[bZ,hy,Jj,aw]
  rw[hr]
  refine eX (key true _ _ (by simp[Jj]) λa' he hp=>⟨he,?_⟩)
  have Mh:=hp.size
  exact wO kt ((hp.get 0 aa (.inr ⟨by omega,by omega⟩)).trans e0) hv hRS aa aa λa4 w4 N8 JS JP Jm=>⟨N8.trans (hp.defers.trans ed),by rw[JS];rfl,JP,Jm⟩
 ·have hr:bZ r=(x,⟨r.src.drop y.toNat,r.bad,r.nl⟩):=by simp only[bZ,hy,hx,Jj,ak]
  rw[hr]
  have IT:=vw r.src
  rw[hy]at IT
  obtain⟨k,rfl⟩:∃ k:Nat,y=(k:Int):=⟨y.toNat,by omega⟩
  refine eK (key false _ _ (by simp;omega) λa' he hp=>⟨he,.skip ?_⟩)
  have Mh:=hp.size
  show LW P [o8 K 4,dg 3 2,cp .ret] 21 _ a' w'
  refine bt (BM kt (k:=k) (l:=4) ((hp.get 0 aa (.inr ⟨by omega,by omega⟩)).trans e0) ((hp.get 4 aa (.inr ⟨by omega,by omega⟩)).trans e4) hv aa hRS aa aa aa λa5 Kt OX=>?_)
  have OV:=Kt.size
  rw[show(o8 K 4 21).2=30 from rfl]
  refine bt (gJ (x:=2) (m:=0) (k0:=0) (.inl rfl) (ae _) aa aa aa λa6 hp6 RN=>bt (.ret ⟨?_,?_,?_,br.setRow (λk=>k=R) _ _ _ rfl⟩))
  ·rw[hp6.defers,Kt.defers,hp.defers];exact ed
  ·rw[RN,Kt.get 3 aa (.inr ⟨by omega,by omega⟩),hp.get 3 aa (.inr ⟨by omega,by omega⟩),e3]
  ·simpa using OX
end
theorem zl {e e':ch}(h:e.entry=e'.entry):e=e':=by
 obtain⟨k,v,b⟩:=e
 obtain⟨k',v',b'⟩:=e'
 simp only[ch.entry,MapEntry.mk.injEq,Value.int.injEq,true_and]at h
 obtain⟨h1,h2,h3⟩:=h
 have:k=k':=by omega
 subst this h2 h3
 rfl
theorem lI:∀ {l l':List ch},l.map ch.entry=l'.map ch.entry->l=l'
 | [],[],_=>rfl
 | [],_::_,h=>by simp at h
 | _::_,[],h=>by simp at h
 | e::l,e'::l',h=>by
  simp only[List.map_cons,List.cons.injEq]at h
  rw[zl h.1,lI h.2]
section
variable {w w':World} {X:Nat->Prop} {r key:Nat} {t:List (Nat × Bs)} {value:Value} {l:Bs} {es:List ch} {clock:Nat}
theorem wM (h:jP w X r t)(hb:w.heap[r]?=some (.map (es.map ch.entry).toArray clock))(Lp:∀ e∈es,e.key≠key)(hk:key<4294967296)(hv:en w (λk=>X k \/ k=r) value l)(LG:br (·=r) w w')
  (OF:w'.heap[r]?=some (.map ((es++[(⟨key,value,clock⟩:ch)]).map ch.entry).toArray (clock+1))):jP w' X r (dM key l t):=by
 obtain⟨es2,c2,f,h1,h2,h3,h4,h5,h6⟩:=h
 rw[hb]at h1
 simp only[aM,Obj.map.injEq]at h1
 obtain⟨he,rfl⟩:=h1
 have KU:=lI (by simpa using congrArg Array.toList he)
 subst KU
 have TE:br (λk=>X k \/ k=r) w w':=LG.mono λ_ _ h=>.inr h
 have KH:∀ e∈es,¬ e.born=clock:=λe hm hh=>by have:=(h2 e hm).2.1;omega
 refine⟨es++[⟨key,value,clock⟩],clock+1,λe=>if e.born=clock then l else f e,OF,λe hm=>?_,?_,?_,?_,jS _ _ _ h6⟩
 ·rcases List.mem_append.1 hm with hm|hm
  ·obtain⟨e1,e2,e3⟩:=h2 e hm
   refine⟨e1,by omega,?_⟩
   show en w' _ e.val (if e.born=clock then l else f e)
   rw[al (KH e hm)]
   exact e3.keep TE
  ·obtain rfl:=aY.1 hm
   exact⟨hk,by simp,by simpa using hv.keep TE⟩
 ·rw[List.map_append,List.nodup_append]
  exact⟨h3,by simp,λa ha b JH=>by
   obtain⟨e,hm,rfl⟩:=aP.1 ha
   simp at JH
   have:=(h2 e hm).2.1
   omega⟩
 ·rw[List.map_append,List.nodup_append]
  exact⟨h4,by simp,λa ha b JH=>by
   obtain⟨e,hm,rfl⟩:=aP.1 ha
   simp at JH
   rw[JH]
   exact Lp e hm⟩
 ·have L8:(es++[(⟨key,value,clock⟩:ch)]).map (λe=>(e.key,if e.born=clock then l else f e))=es.map (λe=>(e.key,f e))++[(key,l)]:=by
   rw[List.map_append]
   congr 1
   ·exact List.map_congr_left λe hm=>by rw[al (KH e hm)]
   ·simp
  rw[L8]
  refine List.Perm.trans (List.perm_append_comm) ?_
  refine List.Perm.trans (List.Perm.cons (key,l) h5) (List.Perm.symm (pE key l t λy hy=>?_))
  obtain⟨e,hm,Yu⟩:=aP.1 (h5.symm.subset hy)
  rw[<- Yu]
  exact Lp e hm
theorem za {j:Nat}{e0:ch}(h:jP w X r t)(hb:w.heap[r]?=some (.map (es.map ch.entry).toArray clock))(hj:es[j]?=some e0)(JM:e0.key=key)(hk:key<4294967296)(hv:en w (λk=>X k \/ k=r) value l)(LG:br (·=r) w w')
  (OF:w'.heap[r]?=some (.map ((es.set j (⟨key,value,e0.born⟩:ch)).map ch.entry).toArray clock)):jP w' X r (dM key l t):=by
 obtain⟨es2,c2,f,h1,h2,h3,h4,h5,h6⟩:=h
 rw[hb]at h1
 simp only[aM,Obj.map.injEq]at h1
 obtain⟨he,rfl⟩:=h1
 have KU:=lI (by simpa using congrArg Array.toList he)
 subst KU
 have TE:br (λk=>X k \/ k=r) w w':=LG.mono λ_ _ h=>.inr h
 obtain⟨K6,Vm⟩:=ah.1 hj
 have M1:e0∈es:=Vm ▸ List.getElem_mem K6
 have Od:(es.set j (⟨key,value,e0.born⟩:ch)).map ch.born=es.map ch.born:=by
  rw[List.map_set]
  have:(es.map ch.born)[j]?=some e0.born:=by simp[hj]
  exact List.ext_getElem? λi=>by
   rw[List.getElem?_set]
   split
   ·rename_i hi;subst hi;simp[K6,Vm]
   ·rfl
 have M8:(es.set j (⟨key,value,e0.born⟩:ch)).map ch.key=es.map ch.key:=by
  rw[List.map_set]
  exact List.ext_getElem? λi=>by
   rw[List.getElem?_set]
   split
   ·rename_i hi;subst hi;simp[K6,Vm,JM]
   ·rfl
 have Q6:∀ i e,es[i]?=some e->e.key=key->i=j:=λi e hi OA=>by
  have e1:(es.map ch.key)[i]?=some key:=by simp[hi,OA]
  have e2:(es.map ch.key)[j]?=some key:=by simp[hj,JM]
  obtain⟨Pl,YU⟩:=ah.1 e1
  obtain⟨TL,TK⟩:=ah.1 e2
  have hp:=List.pairwise_iff_getElem.1 h4
  rcases Nat.lt_trichotomy i j with h|h|h
  ·exact absurd (YU.trans TK.symm) (hp i j Pl TL h)
  ·exact h
  ·exact absurd (TK.trans YU.symm) (hp j i TL Pl h)
 refine⟨es.set j ⟨key,value,e0.born⟩,clock,λe=>if e.key=key then l else f e,OF,λe hm=>?_,by rw[Od];exact h3,by rw[M8];exact h4,?_,jS _ _ _ h6⟩
 ·obtain⟨i,hi⟩:=List.getElem?_of_mem hm
  rw[List.getElem?_set]at hi
  split at hi
  ·rename_i K4
   subst K4
   simp only[aM]at hi
   subst hi
   exact⟨hk,(h2 e0 M1).2.1,by simpa using hv.keep TE⟩
  ·rename_i K4
   have WI:e∈es:=bc hi
   obtain⟨e1,e2,e3⟩:=h2 e WI
   refine⟨e1,e2,?_⟩
   show en w' _ e.val (if e.key=key then l else f e)
   rw[al (λOA=>K4 (Q6 i e hi OA).symm)]
   exact e3.keep TE
 ·have L8:(es.set j (⟨key,value,e0.born⟩:ch)).map (λe=>(e.key,if e.key=key then l else f e))=(es.map (λe=>(e.key,f e))).map λp=>if p.1=key then(key,l)else p:=by
   rw[List.map_map]
   refine List.ext_getElem? λi=>?_
   simp only[aD,List.getElem?_set]
   by_cases K4:j=i
   ·subst K4
    simp[K6,Vm,JM]
   ·rw[al K4]
    cases hi:es[i]? with
    | none=>rfl
    | some e=>
     have OA:¬ e.key=key:=λOA=>K4 (Q6 i e hi OA).symm
     simp[OA]
  rw[L8,pD key l t h6]
  ·exact h5.map _
  ·have:(e0.key,f e0)∈t:=h5.subset (aP.2 ⟨e0,M1,rfl⟩)
   exact⟨_,this,JM⟩
end
def cSet (g:G)(tM:Nat):Code:=(gS [gb 4 5 (λn=>[mk (some n) (.move (tm 0)),mk (some (n+1)) (.nilCheck (tm n)),mk (some (n+2)) (.fieldAddr g.tTags (tm (n+1)) 0),mk (some (n+3)) (.load tM (tm (n+2))),mk (some (n+4)) (.binOp .eql tM (tm (n+3)) (.const (.map none)) 0)])
  (bL 4 λn=>[mk (some n) (.move (tm 0)),mk (some (n+1)) (.makeMap tM none),mk (some (n+2)) (.nilCheck (tm n)),mk (some (n+3)) (.fieldAddr g.tTags (tm (n+2)) 0),mk none (.store tM (tm (n+3)) (tm (n+1)))]) cY,
 bL 6 λn=>[mk (some n) (.move (tm 0)),mk (some (n+1)) (.nilCheck (tm n)),mk (some (n+2)) (.fieldAddr g.tTags (tm (n+1)) 0),mk (some (n+3)) (.load tM (tm (n+2))),mk (some (n+4)) (.move (tm 1)),mk (some (n+5)) (.move (tm 2)),mk none (.mapUpdate tM (tm (n+3)) (tm (n+4)) (tm (n+5)))]] 6).1
section
variable {P:Program} {g:G} {w:World} {a:Act}
theorem mL {ops:Array Oper}{Q:Exit->Act->World->Prop}{l:List Oper}{tM:Nat}{x y z:Operand}{m k v:Value}{w':World}(hx:a.eval x=m)(hy:a.eval y=k)(hz:a.eval z=v)(hr:(Instr.mapUpdate tM m k v).run P w=.ok () w')(h:wpList P ops Q l a w') :
  wpList P ops Q (mk none (.mapUpdate tM x y z)::l) a w:=by
 refine xn (w':=w') ?_ h
 simp[execOp,mk,hx,hy,hz,hr]
theorem vo {ops:Array Oper}{Q:Exit->Act->World->Prop}{l:List Oper}{d:Option Nat}{tM:Nat}(h:wpList P ops Q l (a.put d (.map (some w.heap.size))) (w.alloc (.map #[] 0))):wpList P ops Q (mk d (.makeMap tM none)::l) a w:=by
 refine bP (w':=w.alloc (.map #[] 0)) ?_ h
 have:(Instr.makeMap tM none).run P w=.ok (.map (some w.heap.size)) (w.alloc (.map #[] 0)):=rfl
 simp[execOp,mk,this]
theorem qC {ops:Array Oper}{Q:Exit->Act->World->Prop}{l:List Oper}{d:Option Nat}{tM kt et:Nat}{x:Operand}{m:Option Nat}(hM:P.underlying tM=some (.map kt et))(hx:a.eval x=.map m)(h:wpList P ops Q l (a.put d (.bool m.isNone)) w) :
  wpList P ops Q (mk d (.binOp .eql tM x (.const (.map none)) 0)::l) a w:=by
 refine bP ?_ h
 have hc:a.eval (.const (.map none))=.map none:=rfl
 have he:(eqGuard .eql tM x (.const (.map none)) (.map m) (.map none)).run P w=.ok () w:=by simp[eqGuard]
 have hr:(binOp .eql tM (.map m) (.map none)).run P w=.ok (.bool m.isNone) w:=by
  have h1:(Op.equal tM (.map m) (.map none)).run P w=.ok m.isNone w:=by
   cases m with
   | none=>exact(show(Op.equalIn (9999+1) tM (.map none) (.map none)).run P w=_ from by
     have:∀ d:Nat,(Op.equalIn (d+1) tM (.map none) (.map none)).run P w=.ok true w:=λd=>by simp[Op.equalIn,run_underlying hM]
     exact this 9999)
   | some r=>exact(show(Op.equalIn (9999+1) tM (.map (some r)) (.map none)).run P w=_ from by
     have:∀ d:Nat,(Op.equalIn (d+1) tM (.map (some r)) (.map none)).run P w=.ok false w:=λd=>by simp[Op.equalIn,run_underlying hM]
     exact this 9999)
  simp[binOp,h1]
 simp only[execOp,mk,hx,hc,Sem.run_bind,he,Result.andThen_ok,hr,Sem.run_pure]
theorem ug {KK:Act->World->Prop}{Q:Exit->Act->World->Prop}{n tM kt et B o q k clock te:Nat}{v:Value}{cur:Array Value}{es:List ch}(hM:P.underlying tM=some (.map kt et))(hK:P.underlying kt=some (.int .u32))(hF:cO P g.tTags 0 tM 0 false 1)(h0:a.get 0=pt B o)(h1:a.get 1=.int .u32 k)(h2:a.get 2=v)
  (hk:k<4294967296) (hB:w.heap[B]?=some (.cells cur te (0,0))) (hO:cur[o]?=some (.map (some q))) (hq:w.heap[q]?=some (.map (es.map ch.entry).toArray clock)) (hn:n+6<=a.tmps.size) (QY:3<=n)
  (h:∀ a' w',a'.defers=a.defers->br (·=q) w w'->(∀ (X:Nat->Prop) (t:List (Nat × Bs)) (l:Bs),jP w X q t->en w (λb=>X b \/ b=q) v l->jP w' X q (dM k l t))->KK a' w') :
  cf P (bL 6 (λn=>[mk (some n) (.move (tm 0)),mk (some (n+1)) (.nilCheck (tm n)),mk (some (n+2)) (.fieldAddr g.tTags (tm (n+1)) 0),mk (some (n+3)) (.load tM (tm (n+2))),mk (some (n+4)) (.move (tm 1)),mk (some (n+5)) (.move (tm 2)),mk none (.mapUpdate tM (tm (n+3)) (tm (n+4)) (tm (n+5)))]) n).1 (Exit.then KK Q) a w:=by
 have hc:w.cell? ⟨B,o+0,none⟩=some (.map (some q)):=by simp only[World.cell?,hB];simpa using hO
 refine bF (bv ?_)
 rw[bp,h0]
 refine bY (by rw[bp,bA aa];rfl) ?_
 refine dt (by rw[bp,bA (by simp only[bq];omega)]) hF ?_
 refine cL (by rw[bp,bA (by simp only[bq];omega)]) (hF.var.agg _) hc ?_
 refine bv ?_
 rw[bp,b8 aa,b8 aa,b8 aa,b8 aa,h1]
 refine bv ?_
 rw[bp,b8 aa,b8 aa,b8 aa,b8 aa,b8 aa,h2]
 have Wo:q<w.heap.size:=(aj.1 hq).1
 have LG:∀ ob:Obj,br (·=q) w { w with heap:=w.heap.setIfInBounds q ob }:=λob=>⟨rfl,rfl,rfl,by simp,λi _ hi=>by
  show(w.heap.setIfInBounds q ob)[i]?=_
  rw[ay,al (λh=>hi h.symm)]⟩
 have JD:∀ ob:Obj,({ w with heap:=w.heap.setIfInBounds q ob }:World).heap[q]?=some ob:=λob=>by
  show(w.heap.setIfInBounds q ob)[q]?=_
  rw[ay,ax rfl,ax Wo]
 rcases wc (key:=k) (value:=v) hM hK hq with⟨Lp,hr⟩|⟨j,e,hj,OA,hr⟩
 ·refine mL (by rw[bp,b8 aa,b8 aa,bA (by simp only[bq];omega)]) (by rw[bp,b8 aa,bA (by simp only[bq];omega)]) (by rw[bp,bA (by simp only[bq];omega)]) hr (wpList_nil (h _ _ (by simp only[b6]) (LG _) λX t l T4 Jo=>?_))
  exact wM T4 hq Lp hk Jo (LG _) (JD _)
 ·refine mL (by rw[bp,b8 aa,b8 aa,bA (by simp only[bq];omega)]) (by rw[bp,b8 aa,bA (by simp only[bq];omega)]) (by rw[bp,bA (by simp only[bq];omega)]) hr (wpList_nil (h _ _ (by simp only[b6]) (LG _) λX t l T4 Jo=>?_))
  exact za T4 hq hj OA hk Jo (LG _) (JD _)
theorem en.and {X Y:Nat->Prop}{v:Value}{l:Bs}(h:en w X v l)(k:en w Y v l):en w (λb=>X b \/ Y b) v l:=by
 rcases h with h|⟨b,o,c,h1,h2,h3⟩
 ·exact .inl h
 ·rcases k with k|⟨b',o',c',k1,k2,_⟩
  ·exact .inl k
  ·rw[h1]at k1
   simp only[Value.slice.injEq,aM,Addr.mk.injEq]at k1
   obtain⟨⟨rfl,_⟩,_⟩:=k1
   exact .inr ⟨b,o,c,h1,λh=>h.elim h2 k2,h3⟩
theorem set_calls (hm:P.follows .mixedOrders=true){f ntmps tM kt et:Nat}(hfn:FnIs P f ntmps [] (cSet g tM))(Jg:21<=ntmps)(hM:P.underlying tM=some (.map kt et))(hK:P.underlying kt=some (.int .u32))(hF:cO P g.tTags 0 tM 0 false 1)
  {B o k:Nat} {m:Value} {t:List (Nat × Bs)} {v:Value} {l:Bs} {cur:Array Value} {te:TypeId} (hk:k<4294967296) (hB:w.heap[B]?=some (.cells cur te (0,0))) (hO:cur[o]?=some m) (ht:eA w (·=B) m t) (N3:en w (·=B) v l) :
  Calls P f #[pt B o,.int .u32 k,v] w λe w'=>e=.returned (.tuple #[])/\∃ (q:Nat) (w1:World),w'=w1/\br (λb=>b=B \/ b=q) w w'/\(m=.map none->q=w.heap.size)/\(∀ r,m=.map (some r)->q=r) /\
   w'.heap[B]?=some (.cells (cur.setIfInBounds o (.map (some q))) te (0,0))/\∀ X:Nat->Prop,¬ X q->(∀ k,X k->k<w.heap.size)->en w (λk=>X k \/ k=q) v l->eA w X m t->eA w' X (.map (some q)) (dM k l t):=by
 refine hfn.calls hm ab ?_
 have Jc:=dw #[pt B o,.int .u32 k,v] ntmps (by show 3<=ntmps;omega)
 have Ke:({ tmps:=#[pt B o,.int .u32 k,v]++Array.replicate (ntmps-(#[pt B o,.int .u32 k,v]:Array Value).size) undef,defers:=[] }:Act).get 0=pt B o:=by rw[db _ _ _ ab];rfl
 have IY:({ tmps:=#[pt B o,.int .u32 k,v]++Array.replicate (ntmps-(#[pt B o,.int .u32 k,v]:Array Value).size) undef,defers:=[] }:Act).get 1=.int .u32 k:=by rw[db _ _ _ ab];rfl
 have Ja:({ tmps:=#[pt B o,.int .u32 k,v]++Array.replicate (ntmps-(#[pt B o,.int .u32 k,v]:Array Value).size) undef,defers:=[] }:Act).get 2=v:=by rw[db _ _ _ ab];rfl
 have hd:({ tmps:=#[pt B o,.int .u32 k,v]++Array.replicate (ntmps-(#[pt B o,.int .u32 k,v]:Array Value).size) undef,defers:=[] }:Act).defers=[]:=rfl
 have hs:({ tmps:=#[pt B o,.int .u32 k,v]++Array.replicate (ntmps-(#[pt B o,.int .u32 k,v]:Array Value).size) undef,defers:=[] }:Act).tmps.size=ntmps:=Jc
 generalize({ tmps:=#[pt B o,.int .u32 k,v]++Array.replicate (ntmps-(#[pt B o,.int .u32 k,v]:Array Value).size) undef,defers:=[] }:Act)=a at Ke IY Ja hd hs ⊢
 have Zv:B<w.heap.size:=(aj.1 hB).1
 have R4:o<cur.size:=(aj.1 hO).1
 have hc:w.cell? ⟨B,o+0,none⟩=some m:=by simp only[World.cell?,hB];simpa using hO
 obtain⟨mm,rfl⟩:∃ mm,m=.map mm:=by
  rcases ht with⟨h,_⟩|⟨r,h,_⟩
  ·exact⟨none,h⟩
  ·exact⟨some r,h⟩
 refine cC (bt ?_)
 have key:∀ (K':Act->World->Prop) (Q':Exit->Act->World->Prop),(∀ a',a'.eval (tm (6+4))=.bool mm.isNone->Pv 6 0 0 6 a a'->K' a' w) ->
   wpList P [mk (some 6) (.move (tm 0)),mk (some (6+1)) (.nilCheck (tm 6)),mk (some (6+2)) (.fieldAddr g.tTags (tm (6+1)) 0),mk (some (6+3)) (.load tM (tm (6+2))),mk (some (6+4)) (.binOp .eql tM (tm (6+3)) (.const (.map none)) 0)].toArray (Exit.then K' Q')
   [mk (some 6) (.move (tm 0)),mk (some (6+1)) (.nilCheck (tm 6)),mk (some (6+2)) (.fieldAddr g.tTags (tm (6+1)) 0),mk (some (6+3)) (.load tM (tm (6+2))),mk (some (6+4)) (.binOp .eql tM (tm (6+3)) (.const (.map none)) 0)] a w:=by
  intro K' Q' hK'
  refine bv ?_
  rw[bp,Ke]
  refine bY (by rw[bp,bA aa];rfl) ?_
  refine dt (by rw[bp,bA (by simp only[bq];omega)]) hF ?_
  refine cL (by rw[bp,bA (by simp only[bq];omega)]) (hF.var.agg _) hc ?_
  refine qC hM (by rw[bp,bA (by simp only[bq];omega)]) (wpList_nil (hK' _ (by rw[bp,bA (by simp only[bq];omega)]) ((((((Pv.refl _ _ _ _ _).put _ aa).put _ aa).put _ aa).put _ aa).put _ aa)))
 cases mm with
 | none=>
  refine eX (key _ _ λa1 he hp=>⟨he,?_⟩)
  have IX:=hp.size
  have Z1:a1.get 0=pt B o:=(hp.get 0 aa (.inr ⟨by omega,by omega⟩)).trans Ke
  refine bF (bv ?_)
  rw[bp,Z1]
  refine vo ?_
  refine bY (by rw[bp,b8 aa,bA aa];rfl) ?_
  refine dt (by rw[bp,bA (by simp only[bq];omega)]) hF ?_
  have MC:(w.alloc (.map #[] 0)).heap[B]?=some (.cells cur te (0,0)):=by rw[cR Zv];exact hB
  refine cK (cur:=cur) (t:=te) (v:=.map (some w.heap.size)) (vs:=[.map (some w.heap.size)]) (by rw[bp,bA (by simp only[bq];omega)]) (by rw[bp,b8 aa,b8 aa,bA (by simp only[bq];omega)]) rfl (hF.var.size _) MC (by simp only[List.length_cons,List.length_nil];omega) (λu hu=>by simp at hu;rw[hu];rfl) (wpList_nil ?_)
  have e1:bV cur (o+0) [.map (some w.heap.size)]=cur.setIfInBounds o (.map (some w.heap.size)):=j6 R4
  rw[e1]
  have Mu:((w.alloc (.map #[] 0)).setRow B (cur.setIfInBounds o (.map (some w.heap.size)))).heap[B]?=some (.cells (cur.setIfInBounds o (.map (some w.heap.size))) te (0,0)):=setRow_heap _ _ _ _ _ _ MC
  have MI:((w.alloc (.map #[] 0)).setRow B (cur.setIfInBounds o (.map (some w.heap.size)))).heap[w.heap.size]?=some (.map (([]:List ch).map ch.entry).toArray 0):=by rw[setRow_other _ _ _ _ aa];exact heap_alloc_new _ _
  have IV:br (λb=>b=B) w ((w.alloc (.map #[] 0)).setRow B (cur.setIfInBounds o (.map (some w.heap.size)))):=(br.alloc (λb=>b=B) w _).trans (br.setRow (λb=>b=B) _ _ _ rfl)
  have Oi:((w.alloc (.map #[] 0)).setRow B (cur.setIfInBounds o (.map (some w.heap.size)))).heap.size=w.heap.size+1:=by simp
  generalize(w.alloc (.map #[] 0)).setRow B (cur.setIfInBounds o (.map (some w.heap.size)))=w2 at Mu MI IV Oi ⊢
  refine bt (ug (v:=v) (k:=k) (cur:=cur.setIfInBounds o (.map (some w.heap.size))) (o:=o) (q:=w.heap.size) hM hK hF ?_ ?_ ?_ hk Mu (by simp[R4]) MI (by simp only[bq,gb,bL,cY,cp];omega) (by simp only[gb,bL,cY,cp];omega) λa3 w3 Kp IZ L8=>cD ⟨?_,rfl,w.heap.size,w3,rfl,?_,λ_=>rfl,λr h=>(by cases h),?_,λX So hX Jo Kb=>?_⟩)
  ·rw[b8 aa,b8 aa,b8 aa,b8 aa];exact Z1
  ·rw[b8 aa,b8 aa,b8 aa,b8 aa];exact(hp.get 1 aa (.inr ⟨by omega,by omega⟩)).trans IY
  ·rw[b8 aa,b8 aa,b8 aa,b8 aa];exact(hp.get 2 aa (.inr ⟨by omega,by omega⟩)).trans Ja
  ·rw[Kp];simp only[b6];rw[hp.defers];exact hd
  ·exact(IV.mono λ_ _ h=>.inl h).trans (IZ.mono λ_ _ h=>.inr h)
  ·rw[IZ.block B aa aa];exact Mu
  ·rcases Kb with⟨_,rfl⟩|⟨r,h,_⟩
   ·refine .inr ⟨w.heap.size,rfl,So,by have:=IZ.size;omega,L8 X [] l ⟨[],0,λ_=>[],MI,λe he=>by simp at he,by simp,by simp,by simp,trivial⟩ ?_,qR _ _ _⟩
    exact((Jo.and N3).keep (IV.mono λ_ _ h=>.inr h)).mono λ_ _ h=>.inl h
   ·cases h
 | some r=>
  refine eK (key _ _ λa1 he hp=>⟨he,.skip ?_⟩)
  have IX:=hp.size
  have hrB:¬ r=B/\∃ (es:List ch) (clock:Nat),w.heap[r]?=some (.map (es.map ch.entry).toArray clock):=by
   rcases ht with⟨h,_⟩|⟨r2,h,h1,_,⟨es,c,_,h2,_⟩,_⟩
   ·cases h
   ·cases h;exact⟨h1,es,c,h2⟩
  obtain⟨Wg,es,clock,hq⟩:=hrB
  refine bt (ug (cur:=cur) (o:=o) (q:=r) hM hK hF ((hp.get 0 aa (.inr ⟨by omega,by omega⟩)).trans Ke) ((hp.get 1 aa (.inr ⟨by omega,by omega⟩)).trans IY) ((hp.get 2 aa (.inr ⟨by omega,by omega⟩)).trans Ja) hk hB hO hq (by simp only[gb,bL,cY,cp];omega) (by simp only[gb,bL,cY,cp];omega) λa3 w3 Kp IZ L8=>cD ⟨?_,rfl,r,w3,rfl,IZ.mono λ_ _ h=>.inr h,λh=>(by cases h),λr' h=>(by cases h;rfl),?_,λX So hX Jo Kb=>?_⟩)
  ·rw[Kp,hp.defers];exact hd
  ·rw[IZ.block B Zv (λh=>Wg h.symm),hB]
   congr 2
   apply Array.ext_getElem?
   intro i
   rw[ay]
   split
   ·rename_i hi;subst hi;first|exact hO.symm|(rw[ax R4];exact hO.symm)|exact hO
   ·rfl
  ·rcases Kb with⟨h,_⟩|⟨r2,h,_,h2,h3,_⟩
   ·cases h
   ·cases h
    exact .inr ⟨r,rfl,So,az h2 IZ.size,L8 X t l h3 Jo,qR _ _ _⟩
end
section
variable {P:Program} {g:G} {K:Kn}
structure TI (g:G)(S R p2 p3 ntmps:Nat)(w0:World)(fin:List (Nat × Bs) × RS)(c:Nat)(a:Act)(w:World):Prop where
 g0:a.get 0=pt R 0
 g2:a.get 2=pt p2 0
 g3:a.get 3=pt p3 0
 g4:a.get 4=.int .u32 c
 size:a.tmps.size=ntmps
 defers:a.defers=[]
 keeps:br (·=R) w0 w
 b2:w.heap[p2]?=some (.cells #[.map none] g.tTags (0,0))
 ex:∃ t r mm,e9 c t r=fin/\ep w g.tR S R r/\w.heap[p3]?=some (.cells #[mm] g.tTags (0,0))/\(mm=.map none \/ ∃ q,mm=.map (some q)/\w0.heap.size+2<=q)/\∀ X:Nat->Prop,(∀ k,X k->k<w0.heap.size+2)->¬ X S->eA w X mm t
def SetOk (P:Program)(f:Nat):Prop:=
 ∀ (w:World) (B o:Nat) (m:Value) (t:List (Nat × Bs)) (k:Nat) (v:Value) (l:Bs) (cur:Array Value) (te:TypeId),k<4294967296->w.heap[B]?=some (.cells cur te (0,0))->cur[o]?=some m->eA w (·=B) m t->en w (·=B) v l ->
  Calls P f #[pt B o,.int .u32 k,v] w λe w'=>e=.returned (.tuple #[])/\∃ (q:Nat) (w1:World),w'=w1/\br (λb=>b=B \/ b=q) w w'/\(m=.map none->q=w.heap.size)/\(∀ r,m=.map (some r)->q=r) /\
   w'.heap[B]?=some (.cells (cur.setIfInBounds o (.map (some q))) te (0,0))/\∀ X:Nat->Prop,¬ X q->(∀ k,X k->k<w.heap.size)->en w (λk=>X k \/ k=q) v l->eA w X m t->eA w' X (.map (some q)) (dM k l t)
theorem y9 {T:Nat}(kt:KT P g K)(ks:KSub P g K T)(M2:cJ g.uv=true)(L1:cJ g.span=true)(hT:T=g.tR)(Ta:Ent P g.set)(Ks:SetOk P g.set){S R p2 p3 ntmps c:Nat}{w0 w:World}{fin:List (Nat × Bs) × RS}{a:Act}{KK:Act->World->Prop}{Q:Exit->Act->World->Prop}
  (IR:p2=w0.heap.size) (IW:p3=w0.heap.size+1) (hS:S<w0.heap.size) (hR:R<w0.heap.size) (hRS:S≠R) (Jg:24<=ntmps) (hI:TI g S R p2 p3 ntmps w0 fin (c+1) a w)
  (h:∀ a' w',a'.get 4=.int .u32 ((c+1:Nat):Int)->(∀ a'',a''.get 0=a'.get 0->a''.get 2=a'.get 2->a''.get 3=a'.get 3->a''.get 4=.int .u32 c->a''.tmps.size=a'.tmps.size->a''.defers=a'.defers->TI g S R p2 p3 ntmps w0 fin c a'' w')->a'.tmps.size=ntmps->KK a' w') :
  cf P (.seq (rg [mk (some 13) (.move (tm 0)),cl (some 14) g.uv [tm 13],mk (some 15) (.move (tm 0)),cl (some 16) g.uv [tm 15],mk (some 5) (.assign (tm 14)),mk (some 6) (.assign (tm 16))])
   (rg [mk (some 17) (.move (tm 5)),mk (some 18) (.move (tm 0)),mk (some 19) (.move (tm 6)),mk (some 20) (.convert K.tU32 K.tInt (tm 19)),cl (some 21) g.span [tm 18,tm 20],cl (some 22) g.set [tm 3,tm 17,tm 21]])) (Exit.then KK Q) a w:=by
 subst hT
 obtain⟨t,r,mm,Nx,LV,Mp,LF,Kb⟩:=hI.ex
 have hs:=hI.size
 refine .seq (R:=Exit.then (λa1 w1=>∃ w',w1=w'/\(∀ s,s<5->a1.get s=a.get s)/\a1.get 5=.int .u32 (bZ r).1/\a1.get 6=.int .u32 (bZ (bZ r).2).1/\a1.tmps.size=ntmps/\a1.defers=[]/\ep w' g.tR S R (bZ (bZ r).2).2/\br (·=R) w w') Q) (bF ?_) (λa1 w1 hh=>?_) (λe a w he hq=>by rw[dY he]at hq ⊢;exact hq)
 ·refine bv ?_
  rw[bp,hI.g0]
  refine cj (vs:=#[pt R 0]) (ks.eU M2) (by simp[bp,bA (show 13<a.tmps.size by omega)]) (ks.cU M2 w S R r LV hRS) λe w1 hR1=>⟨_,hR1.1,?_⟩
  refine bv ?_
  rw[bp,b8 aa,b8 aa,hI.g0]
  refine cj (vs:=#[pt R 0]) (ks.eU M2) (by simp[bp,bA (show 15<((a.put (some 13) (pt R 0)).put (some 14) (.int .u32 (bZ r).1)).tmps.size by simp only[bq];omega)]) (ks.cU M2 w1 S R (bZ r).2 hR1.2.1 hRS) λe2 w2 Kr=>⟨_,Kr.1,?_⟩
  refine b7 (b7 (wpList_nil ⟨w2,rfl,λs OV=>?_,?_,?_,?_,?_,Kr.2.1,hR1.2.2.trans Kr.2.2⟩))
  ·rw[b8 aa,b8 aa,b8 aa,b8 aa,b8 aa,b8 aa]
  ·rw[b8 aa,bA (by simp only[bq];omega),bp,b8 aa,b8 aa,bA (by simp only[bq];omega)]
  ·rw[bA (by simp only[bq];omega),bp,b8 aa,bA (by simp only[bq];omega)]
  ·simp only[bq];exact hs
  ·simp only[b6];exact hI.defers
 ·obtain⟨w1',rfl,Je,h5,h6,IX,Ma,K8,Jd⟩:=hh
  have IU:=l9 (bZ r).2
  have Rq:=hI.keeps.size
  have hk01:br (·=R) w0 w1:=hI.keeps.trans Jd
  have Wr:p3<w.heap.size:=(aj.1 Mp).1
  have Ws:p2<w.heap.size:=(aj.1 hI.b2).1
  have LK:=Jd.size
  refine bF (bv ?_)
  rw[bp,h5]
  refine bv ?_
  rw[bp,b8 aa,Je 0 aa,hI.g0]
  refine bv ?_
  rw[bp,b8 aa,b8 aa,h6]
  have JO:IntKind.i64.wrap ((bZ (bZ r).2).1:Int)=((bZ (bZ r).2).1:Int):=by simp[IntKind.wrap,IntKind.bits,IntKind.signed];omega
  refine ci (k:=.u32) (k':=.i64) (m:=((bZ (bZ r).2).1:Int)) (by rw[bp,bA (by simp only[bq];omega)]) kt.dU32 kt.dInt ?_
  rw[JO]
  refine cj (vs:=#[pt R 0,.int .i64 ((bZ (bZ r).2).1:Int)]) (ks.eS L1) ?_ (ks.cS L1 w1 S R _ _ K8 hRS) λe w2 Kr=>?_
  ·simp only[List.map_cons,List.map_nil,bp]
   rw[bA (by simp only[bq];omega),b8 (show 18≠20 by omega),b8 (show 18≠19 by omega),bA (by simp only[bq];omega)]
  obtain⟨v,he,Jt,IV,Mf⟩:=Kr
  refine⟨v,he,?_⟩
  have J0:br (·=R) w w2:=Jd.trans IV
  have XD:w2.heap[p3]?=some (.cells #[mm] g.tTags (0,0)):=by rw[J0.block p3 Wr aa];exact Mp
  have Oi:=IV.size
  have MF:∀ X:Nat->Prop,(∀ k,X k->k<w0.heap.size+2)->¬ X S->eA w2 X mm t:=λX hX hXS=>
   ((Kb (λk=>X k \/ k=R) (λk hk=>by rcases hk with hk|hk;exact hX k hk;omega) (λhk=>by rcases hk with hk|hk;exact hXS hk;exact hRS hk)).keep (J0.mono λ_ _ h=>.inr h)).mono λ_ _ h=>.inl h
  have K5:=l9 r
  refine cj (vs:=#[pt p3 0,.int .u32 (bZ r).1,v]) Ta ?_ (Ks w2 p3 0 mm t (bZ r).1 v _ #[mm] g.tTags K5 XD rfl (MF _ (λk hk=>by omega) aa) (Mf.sl aa)) λe3 w3 hR3=>?_
  ·simp only[List.map_cons,List.map_nil,bp]
   rw[bA (by simp only[bq];omega),b8 (show 3≠21 by omega),b8 (show 3≠20 by omega),b8 (show 3≠19 by omega),b8 (show 3≠18 by omega),b8 (show 3≠17 by omega),Je 3 aa,hI.g3,
    b8 (show 17≠21 by omega),b8 (show 17≠20 by omega),b8 (show 17≠19 by omega),b8 (show 17≠18 by omega),bA aa]
  obtain⟨Uq,q,w',rfl,IZ,P4,La,NR,UF⟩:=hR3
  have hqg:w0.heap.size+2<=q:=by
   rcases LF with hm|⟨q',hm,Vg⟩
   ·rw[P4 hm];omega
   ·rw[La q' hm];exact Vg
  have Ro:=IZ.size
  refine⟨_,Uq,wpList_nil (h _ w3 ?_ (λa'' e0 e2 e3' e4 es ed=>⟨e0.trans ?_,e2.trans ?_,e3'.trans ?_,e4,es.trans ?_,ed.trans ?_,?_,?_,dM (bZ r).1 _ t,_,.map (some q),Nx,Jt.keep IZ aa aa,?_,.inr ⟨q,rfl,hqg⟩,λX hX hXS=>?_⟩) ?_)⟩
  ·rw[b8 aa,b8 aa,b8 aa,b8 aa,b8 aa,b8 aa,Je 4 aa];exact hI.g4
  ·rw[b8 aa,b8 aa,b8 aa,b8 aa,b8 aa,b8 aa,Je 0 aa];exact hI.g0
  ·rw[b8 aa,b8 aa,b8 aa,b8 aa,b8 aa,b8 aa,Je 2 aa];exact hI.g2
  ·rw[b8 aa,b8 aa,b8 aa,b8 aa,b8 aa,b8 aa,Je 3 aa];exact hI.g3
  ·simp only[bq];exact IX
  ·simp only[b6];exact Ma
  ·refine⟨IZ.os.trans (J0.os.trans hI.keeps.os),IZ.tape.trans (J0.tape.trans hI.keeps.tape),IZ.output.trans (J0.output.trans hI.keeps.output),by omega,λi hi hx=>?_⟩
   rw[IZ.block i aa aa,J0.block i aa hx,hI.keeps.block i hi hx]
  ·rw[IZ.block p2 aa aa,J0.block p2 Ws aa];exact hI.b2
  ·rw[NR];rfl
  ·exact UF X (λh=>by have:=hX q h;omega) (λk hk=>by have:=hX k hk;omega) (Mf.sl λh=>by rcases h with h|h;exact hXS h;omega) (MF X hX hXS)
  ·simp only[bq];exact IX
end
section
variable {P:Program} {g:G} {K:Kn}
theorem oH {F p:Nat}{w:World}{v x:Value}(hV:cv P F true 1)(hb:w.heap[p]?=some (.cells (bV #[x] 0 [v]) F (0,0))):(loadVar F ⟨p,0,none⟩).run P w=.ok (.agg #[v]) w:=by
 have hl:=run_loadCells_list (P:=P) w ⟨p,0,none⟩ [v] (λj u hj=>by
  rw[Addr.add_lit]
  cases j with
  | zero=>simp at hj;subst hj;simp[World.cell?,hb,bV]
  | succ j=>simp at hj)
 simp only[List.length_cons,List.length_nil,aN]at hl
 simp[loadVar,hV.agg w,hV.size w,hl]
theorem TI.put {S R p2 p3 ntmps c:Nat}{w0 w:World}{fin:List (Nat × Bs) × RS}{a:Act}(h:TI g S R p2 p3 ntmps w0 fin c a w){d:Nat}{v:Value}(hd:5<=d):TI g S R p2 p3 ntmps w0 fin c (a.put (some d) v) w:=
 ⟨by rw[b8 aa];exact h.g0,by rw[b8 aa];exact h.g2,by rw[b8 aa];exact h.g3,by rw[b8 aa];exact h.g4,by rw[bq];exact h.size,by rw[b6];exact h.defers,h.keeps,h.b2,h.ex⟩
theorem yA {T:Nat}(kt:KT P g K)(ks:KSub P g K T)(M2:cJ g.uv=true)(L1:cJ g.span=true)(hT:T=g.tR)(Ta:Ent P g.set)(Ks:SetOk P g.set){S R p2 p3 ntmps:Nat}{w0 w:World}{fin:List (Nat × Bs) × RS}{c:Nat}{a:Act}{KK E:Act->World->Prop}
  (IR:p2=w0.heap.size) (IW:p3=w0.heap.size+1) (hS:S<w0.heap.size) (hR:R<w0.heap.size) (hRS:S≠R) (Jg:24<=ntmps) (MW:c<4294967296) (hI:TI g S R p2 p3 ntmps w0 fin c a w)
  (h:∀ a' w',TI g S R p2 p3 ntmps w0 fin 0 a' w'->KK a' w') :
  cf P (.block 0 (.loop (.seq (.seq (rg [mk (some 9) (.move (tm 4)),mk (some 10) (.binOp .gtr K.tU32 (tm 9) (ki .u32 0) 0)]) (.cond (tm 10) .skip (.exit 0)))
  (.seq (.block 1 (.seq (rg [mk (some 13) (.move (tm 0)),cl (some 14) g.uv [tm 13],mk (some 15) (.move (tm 0)),cl (some 16) g.uv [tm 15],mk (some 5) (.assign (tm 14)),mk (some 6) (.assign (tm 16))])
   (rg [mk (some 17) (.move (tm 5)),mk (some 18) (.move (tm 0)),mk (some 19) (.move (tm 6)),mk (some 20) (.convert K.tU32 K.tInt (tm 19)),cl (some 21) g.span [tm 18,tm 20],cl (some 22) g.set [tm 3,tm 17,tm 21]])))
   (rg [mk (some 11) (.move (tm 4)),mk (some 12) (.binOp .sub K.tU32 (tm 11) (ki .u32 1) 0),mk (some 4) (.assign (tm 12))]))))) (Rt KK E) a w:=by
 refine .block (.loop (λa1 w1=>∃ c:Nat,c<4294967296/\TI g S R p2 p3 ntmps w0 fin c a1 w1) (λa1 _=>(match a1.get 4 with|.int _ q=>q|_=>0).toNat) ⟨c,MW,hI⟩ ?_)
 rintro a1 w1 ⟨c,JC,h1⟩
 have IX:=h1.size
 have Jh:∀ (b:Bool),b=decide ((0:Int)<(c:Int))->wpList P [mk (some 9) (.move (tm 4)),mk (some 10) (.binOp .gtr K.tU32 (tm 9) (ki .u32 0) 0)].toArray
   (Rt (λa' w'=>a'.eval (tm 10)=.bool b/\TI g S R p2 p3 ntmps w0 fin c a' w'/\w'=w1) E) [mk (some 9) (.move (tm 4)),mk (some 10) (.binOp .gtr K.tU32 (tm 9) (ki .u32 0) 0)] a1 w1:=by
  intro b hb
  refine bv ?_
  rw[bp,h1.g4]
  refine cZ (b:=b) (p:=c) (q:=0) (k:=.u32) (by rw[bp,bA aa]) rfl (.inr (.inr (.inr (.inl ⟨rfl,hb⟩)))) (wpList_nil ?_)
  exact⟨by rw[bp,bA (by simp only[bq];omega)],(h1.put aa).put aa,rfl⟩
 cases c with
 | succ c=>
  refine .seq (R:=Rt (λa2 w2=>TI g S R p2 p3 ntmps w0 fin (c+1) a2 w2/\w2=w1) E) ?_ (λa2 w2 hh=>?_) (λe a w he hq=>by cases e<;>first|exact absurd rfl he|exact hq|exact hq.elim)
  ·refine .seq (.reg (Jh true ab)) (λa2 w2 hh=>.condT hh.1 (.skip hh.2)) (λe a w he hq=>by cases e<;>first|exact absurd rfl he|exact hq)
  ·obtain⟨h2,rfl⟩:=hh
   refine .seq (R:=Rt (λa3 w3=>a3.get 4=.int .u32 ((c+1:Nat):Int)/\(∀ a'',a''.get 0=a3.get 0->a''.get 2=a3.get 2->a''.get 3=a3.get 3->a''.get 4=.int .u32 c->a''.tmps.size=a3.tmps.size->a''.defers=a3.defers->TI g S R p2 p3 ntmps w0 fin c a'' w3)/\a3.tmps.size=ntmps) E)
    (.block (.mono (y9 kt ks M2 L1 hT Ta Ks IR IW hS hR hRS Jg h2 (Q:=Rt (λ_ _=>False) E) (KK:=λa3 w3=>a3.get 4=.int .u32 ((c+1:Nat):Int)/\(∀ a'',a''.get 0=a3.get 0->a''.get 2=a3.get 2->a''.get 3=a3.get 3->a''.get 4=.int .u32 c->a''.tmps.size=a3.tmps.size->a''.defers=a3.defers->TI g S R p2 p3 ntmps w0 fin c a'' w3)/\a3.tmps.size=ntmps) (λa' w' x y z=>⟨x,y,z⟩))
     λe a w hq=>by cases e<;>first|exact hq|exact hq.elim)) (λa3 w3 hh=>?_) (λe a w he hq=>by cases e<;>first|exact absurd rfl he|exact hq|exact hq.elim)
   obtain⟨Jw,UF,JI⟩:=hh
   refine .reg (bv ?_)
   rw[bp,Jw]
   have JO:IntKind.u32.wrap (((c+1:Nat):Int)-1)=(c:Int):=by simp[IntKind.wrap,IntKind.bits,IntKind.signed];omega
   refine ee (v:=.int .u32 (c:Int)) (k:=.u32) (m:=((c+1:Nat):Int)) (n:=1) (by rw[bp,bA aa]) rfl ab (by simp only[binOp,Op.intArith,JO];simp) ?_
   refine b7 (wpList_nil ?_)
   rw[bp,bA (by simp only[bq];omega)]
   have Lx:(((a3.put (some 11) (.int .u32 ((c+1:Nat):Int))).put (some 12) (.int .u32 (c:Int))).put (some 4) (.int .u32 (c:Int))).get 4=.int .u32 (c:Int):=bA (by simp only[bq];omega)
   refine⟨⟨c,by omega,UF _ ?_ ?_ ?_ Lx ?_ ?_⟩,?_⟩
   ·rw[b8 aa,b8 aa,b8 aa]
   ·rw[b8 aa,b8 aa,b8 aa]
   ·rw[b8 aa,b8 aa,b8 aa]
   ·simp only[bq]
   ·simp only[b6]
   ·rw[Lx,h1.g4]
    simp only
    omega
 | zero=>
  refine .seq (R:=λe a w=>e≠.normal/\Exit.inBlock 0 (Rt KK E) e a w) ?_ (λa2 w2 hh=>absurd rfl hh.1) (λe a w he hq=>?_)
  ·refine .seq (R:=Rt (λa' w'=>a'.eval (tm 10)=.bool false/\TI g S R p2 p3 ntmps w0 fin 0 a' w'/\w'=w1) E) (.reg (Jh false ab)) (λa2 w2 hh=>.condF hh.1 (.exit ?_)) (λe a w he hq=>by cases e<;>first|exact absurd rfl he|exact⟨by simp,hq⟩|exact hq.elim)
   simp only[Exit.inBlock,aw]
   exact⟨by simp,h a2 w2 hh.2.1⟩
  ·rw[dY he];exact hq.2
theorem rdTags_calls {T:Nat}(kt:KT P g K)(ks:KSub P g K T)(M2:cJ g.uv=true)(L1:cJ g.span=true)(hT:T=g.tR)(Ta:Ent P g.set)(Ks:SetOk P g.set)(hz:∀ w,(zeroValue g.tTags).run P w=.ok (.agg #[.map none]) w)(hV:cv P g.tTags true 1){f ntmps:Nat}(hfn:FnIsC P f ntmps 2 g.tTags (cRdTags g K))(Jg:24<=ntmps)
  {w:World} {S R:Nat} {r:RS} (hR:ep w g.tR S R r) (hRS:S≠R) (hS:S<w.heap.size):Calls P f #[pt R 0] w λe w'=>
  ∃ m,e=.returned (.agg #[m])/\ep w' g.tR S R (e9 (bZ r).1 [] (bZ r).2).2/\br (·=R) w w'/\∀ X:Nat->Prop,(∀ k,X k->k<w.heap.size)->¬ X S->eA w' X m (e9 (bZ r).1 [] (bZ r).2).1:=by
 refine hfn.calls kt.mixed ?_
 have Jc:=dw #[pt R 0] ntmps (by show 1<=ntmps;omega)
 have Ke:({ tmps:=#[pt R 0]++Array.replicate (ntmps-(#[pt R 0]:Array Value).size) undef,defers:=[] }:Act).get 0=pt R 0:=by rw[db _ _ _ ab];rfl
 have KF:({ tmps:=#[pt R 0]++Array.replicate (ntmps-(#[pt R 0]:Array Value).size) undef,defers:=[] }:Act).defers=[]:=rfl
 have hsz':({ tmps:=#[pt R 0]++Array.replicate (ntmps-(#[pt R 0]:Array Value).size) undef,defers:=[] }:Act).tmps.size=ntmps:=Jc
 generalize({ tmps:=#[pt R 0]++Array.replicate (ntmps-(#[pt R 0]:Array Value).size) undef,defers:=[] }:Act)=a at Ke KF hsz' ⊢
 have Vx:=hR.lt
 unfold cRdTags
 refine bJ (bF (fe (hz w) (wpList_nil ?_)))
 refine bJ (bF (fe (hz _) (wpList_nil ?_)))
 have LX:br (λ_=>False) w ((w.alloc (.cells (Value.agg #[.map none]).cells g.tTags (0,0))).alloc (.cells (Value.agg #[.map none]).cells g.tTags (0,0))):=(br.alloc _ _ _).trans (br.alloc _ _ _)
 have JH:((w.alloc (.cells (Value.agg #[.map none]).cells g.tTags (0,0))).alloc (.cells (Value.agg #[.map none]).cells g.tTags (0,0))).heap[w.heap.size]?=some (.cells #[.map none] g.tTags (0,0)):=by rw[cR ab];exact heap_alloc_new _ _
 have Mp:((w.alloc (.cells (Value.agg #[.map none]).cells g.tTags (0,0))).alloc (.cells (Value.agg #[.map none]).cells g.tTags (0,0))).heap[w.heap.size+1]?=some (.cells #[.map none] g.tTags (0,0)):=by
  have:=heap_alloc_new (w.alloc (.cells (Value.agg #[.map none]).cells g.tTags (0,0))) (.cells (Value.agg #[.map none]).cells g.tTags (0,0))
  rw[show(w.alloc (.cells (Value.agg #[.map none]).cells g.tTags (0,0))).heap.size=w.heap.size+1 by simp]at this
  exact this
 have Rn:((w.alloc (.cells (Value.agg #[.map none]).cells g.tTags (0,0))).alloc (.cells (Value.agg #[.map none]).cells g.tTags (0,0))).heap.size=w.heap.size+2:=by simp
 have Wa:(w.alloc (.cells (Value.agg #[.map none]).cells g.tTags (0,0))).heap.size=w.heap.size+1:=by simp
 rw[Wa]
 generalize(w.alloc (.cells (Value.agg #[.map none]).cells g.tTags (0,0))).alloc (.cells (Value.agg #[.map none]).cells g.tTags (0,0))=w2 at LX JH Mp Rn ⊢
 have e0:((a.put (some 2) (.pointer (some ⟨w.heap.size,0,none⟩))).put (some 3) (.pointer (some ⟨w.heap.size+1,0,none⟩))).get 0=pt R 0:=by rw[b8 aa,b8 aa];exact Ke
 have e2:((a.put (some 2) (.pointer (some ⟨w.heap.size,0,none⟩))).put (some 3) (.pointer (some ⟨w.heap.size+1,0,none⟩))).get 2=pt w.heap.size 0:=by rw[b8 aa,bA aa];rfl
 have e3:((a.put (some 2) (.pointer (some ⟨w.heap.size,0,none⟩))).put (some 3) (.pointer (some ⟨w.heap.size+1,0,none⟩))).get 3=pt (w.heap.size+1) 0:=by rw[bA (by simp only[bq];omega)];rfl
 have es:((a.put (some 2) (.pointer (some ⟨w.heap.size,0,none⟩))).put (some 3) (.pointer (some ⟨w.heap.size+1,0,none⟩))).tmps.size=ntmps:=by simp only[bq];exact hsz'
 have ed:((a.put (some 2) (.pointer (some ⟨w.heap.size,0,none⟩))).put (some 3) (.pointer (some ⟨w.heap.size+1,0,none⟩))).defers=[]:=by simp only[b6];exact KF
 generalize(a.put (some 2) (.pointer (some ⟨w.heap.size,0,none⟩))).put (some 3) (.pointer (some ⟨w.heap.size+1,0,none⟩))=a2 at e0 e2 e3 es ed ⊢
 subst hT
 have IU:=l9 r
 have Kr:ep w2 g.tR S R r:=hR.keep LX id id
 generalize Nx:e9 (bZ r).1 [] (bZ r).2=fin
 have hkA':br (·=R) w w2:=LX.mono λ_ _ h=>h.elim
 refine bJ ?_
 rw[cn]
 refine .seq (R:=Rt (λa' w'=>TI g S R w.heap.size (w.heap.size+1) ntmps w fin (bZ r).1 a' w') λ_ _=>False) (.reg ?_) (λa1 w1 hI=>?_) (λe a w he hq=>by cases e<;>first|exact absurd rfl he|exact hq|exact hq.elim)
 ·refine bv ?_
  rw[bp,e0]
  refine cj (vs:=#[pt R 0]) (ks.eU M2) (by simp[bp,bA (show 7<a2.tmps.size by omega)]) (ks.cU M2 w2 S R r Kr hRS) λe w3 hR3=>⟨_,hR3.1,?_⟩
  refine b7 (wpList_nil ?_)
  have IZ:=hR3.2.2
  refine⟨?_,?_,?_,?_,?_,?_,hkA'.trans IZ,?_,[],(bZ r).2,.map none,Nx,hR3.2.1,?_,.inl rfl,λX _ _=>.inl ⟨rfl,rfl⟩⟩
  ·rw[b8 aa,b8 aa,b8 aa];exact e0
  ·rw[b8 aa,b8 aa,b8 aa];exact e2
  ·rw[b8 aa,b8 aa,b8 aa];exact e3
  ·rw[bA (by simp only[bq];omega),bp,bA (by simp only[bq];omega)]
  ·simp only[bq];exact es
  ·simp only[b6];exact ed
  ·rw[IZ.block _ aa aa];exact JH
  ·rw[IZ.block _ aa aa];exact Mp
 ·refine yA kt ks M2 L1 rfl Ta Ks rfl rfl hS Vx hRS Jg IU hI λa3 w3 h3=>?_
  obtain⟨t,r',mm,QH,JQ,NR,_,Kb⟩:=h3.ex
  have JI:=h3.size
  have QZ:=h3.keeps.size
  refine bJ (bF ?_)
  have MV:∀ j v,[mm][j]?=some v->w3.cell? ⟨w.heap.size+1,0+j,none⟩=some v:=by
   intro j v hj
   cases j with
   | zero=>simp at hj;subst hj;simp[World.cell?,NR]
   | succ j=>simp at hj
  refine gN (b:=w.heap.size+1) (o:=0) (cs:=[mm]) (by rw[bp];exact h3.g3) (hV.agg w3) (hV.size w3) MV ?_
  refine cK (g:=w.heap.size) (o:=0) (cur:=#[.map none]) (t:=g.tTags) (v:=.agg #[mm]) (vs:=[mm]) (by rw[bp,b8 aa];exact h3.g2) (by rw[bp,bA aa]) rfl (hV.size w3) h3.b2 ab ?_ (wpList_nil ?_)
  ·intro u hu
   simp at hu
   subst hu
   rcases Kb (λ_=>False) (λ_ h=>h.elim) id with⟨rfl,_⟩|⟨q,rfl,_⟩<;>rfl
  ·refine bJ (.ret ?_)
   have Qv:(w3.setRow w.heap.size (bV #[.map none] 0 [mm])).heap[w.heap.size]?=some (.cells (bV #[.map none] 0 [mm]) g.tTags (0,0)):=setRow_heap _ _ _ _ _ _ h3.b2
   have Jm:br (·=w.heap.size) w3 (w3.setRow w.heap.size (bV #[.map none] 0 [mm])):=br.setRow _ _ _ _ rfl
   refine⟨by simp only[b6];exact h3.defers,⟨w.heap.size,0,none⟩,.agg #[mm],by rw[b8 aa];exact h3.g2,?_,mm,rfl,?_,?_,?_⟩
   ·have hl:=oH (P:=P) hV Qv
    exact hl
   ·rw[<- QH]at *
    exact JQ.keep Jm aa aa
   ·refine⟨Jm.os.trans h3.keeps.os,Jm.tape.trans h3.keeps.tape,Jm.output.trans h3.keeps.output,by have:=Jm.size;omega,λi hi hx=>?_⟩
    rw[Jm.block i aa aa,h3.keeps.block i hi hx]
   ·intro X hX hXS
    have:=(Kb (λk=>X k \/ k=w.heap.size) (λk hk=>by rcases hk with hk|hk;have:=hX k hk;omega;omega) (λhk=>by rcases hk with hk|hk;exact hXS hk;omega)).keep (Jm.mono λ_ _ h=>.inr h)
    rw[<- QH]
    exact this.mono λ_ _ h=>.inl h
end
