/-
  PLAIN LAWS AND CONTRACTS of messages, part 7.
-/
import Derived.Test.YtpoeajgpacfpoaaGreatDoorK6
import Derived.KernelRfl

namespace Go.Proofs.YtpoeajgpacfpoaaGreatDoor.Kx
open Go
section
variable {P:Program} {g:G} {K:Kn} {T:Nat}
theorem gh (hm:P.follows .mixedOrders=true){f ntmps n0:Nat}{l:List GC}{y:Value}{w:World}{RR:Ending->World->Prop}(hfn:FnIs P f ntmps [2] (gS l n0).1)(Iv:1<=ntmps)
  (h:∀ a,a.get 0=y->a.tmps.size=ntmps->a.defers=[]->LW P l n0 (Rt (fun _ _=>False) (fun a' w'=>a'.defers=[]/\RR (.returned (a'.get 2)) w')) a w):Calls P f #[y] w RR:=by
 refine hfn.calls hm (by simp) ?_
 have:=h { tmps:=#[y]++Array.replicate (ntmps-(#[y]:Array Value).size) undef,defers:=[] } (by rw[b9 _ _ _ (by simp)];rfl) (ck #[y] ntmps Iv) rfl
 exact lk (aY this) (fun _ _ h=>h.elim) (fun a w h=>⟨h.1,h.2⟩)
theorem ee {x n:Nat}{a a':Act}{v:Value}(hp:Pv x 0 0 n a a')(h:a.get 0=v)(hx:0≠x)(hn:0<n):a'.get 0=v:=(hp.get 0 hx (.inr ⟨Nat.le_refl _,hn⟩)).trans h
theorem jB {r:RS}{k:Nat}(hk:k=2 \/ k=4):-2147483648<=(rI k r).1/\(rI k r).1<2147483648:=by
 by_cases Id:r.src.length<k
 ·rw[qR Id]
  rcases hk with rfl|rfl<;>simp[kF]
 ·have h:=kW (show k<=r.src.length by omega)
  rw[uy (show k<=r.src.length by omega)]
  rcases hk with rfl|rfl
  ·simp only[kF];split<;>rename_i h2<;>simp at h h2 ⊢<;>omega
  ·simp only[kF];split<;>rename_i h2<;>simp at h h2 ⊢<;>omega
theorem rdOk_str (kt:KT P g K)(ks:KSub P g K T)(NV:b7 (g.rd .i16)=true)(Kv:b7 g.span=true){f ntmps:Nat}(hfn:FnIs P f ntmps [2] (cStr g K))(Iv:11<=ntmps):RdOk P T .str f:=by
 refine⟨hfn.ent,fun w S R r hR hRS=>gh kt.mixed hfn (by omega) fun a h0 hs hd=>?_⟩
 refine ad (cV (x:=2) (m:=0) (k0:=0) (.inl rfl) (by omega) fun a1 HX _=>?_)
 have If:=HX.size
 rw[show(aR 2 (.string ⟨#[]⟩) 4).2=4 from rfl]
 refine ad (rk (r':=(rI 2 r).2) (ks.e16 NV) (ks.c16 NV w S R r hR hRS) (ee HX h0 (by omega) (by omega)) (by omega) (by omega) fun a2 w2 HZ Ij I1 Ic=>?_)
 have Iw:=HZ.size
 rw[show(nS (g.rd .i16) 4).2=6 from rfl]
 refine ad (aq (kH ks Kv (.inl rfl) kt.dI16 kt.dInt (jB (.inl rfl)) (ee HZ (ee HX h0 (by omega) (by omega)) (by omega) (by omega)) Ij I1 hRS (by omega) (by omega) fun a3 w3 v Ie I2 IT Il Nf=>?_))
 have IJ:=Ie.size
 refine js kt ks (by rw[aa];exact I2) Nf (ak (wpList_nil (ad (.ret ⟨?_,?_⟩))))
 ·simp only[aj];rw[Ie.defers,HZ.defers,HX.defers];exact hd
 ·rw[ao (by simp only[ab];omega),aa,ao (by omega)]
  have Ib:=lf (rI 2 r).1 I1
  exact⟨_,rfl,IT,Ic.trans Il,fun X _ _=>⟨_,rfl,rfl,Ib⟩⟩
theorem qi (_kt:KT P g K)(ks:KSub P g K T)(Lo:b7 g.uv=true){w:World}{S R n:Nat}{r:RS}{a:Act}{KK:Act->World->Prop}{Q:Exit->Act->World->Prop}{A B:Nat}{k:IntKind}(hR:cy w T S R r)(hRS:S≠R)(hA:P.underlying A=some (.int .u32))(hB:P.underlying B=some (.int k))(h0:a.get 0=pt R 0)(hn:n+4<=a.tmps.size)(OS:3<n)
  (h:∀ a' w',Pv 3 0 0 n a a'->a'.get 3=.int k (k.wrap (k.wrap ((b5 r).1:Int)-1))->cy w' T S R (b5 r).2->ac (·=R) w w'->KK a' w'):aK P (ls g A B k n).1 (Exit.then KK Q) a w:=by
 refine aq (ah ?_)
 rw[aa,h0]
 refine aN (vs:=#[pt R 0]) (ks.eU Lo) (by simp[aa,ao (show n<a.tmps.size by omega)]) (ks.cU Lo w S R r hR hRS) fun e w' JD=>⟨_,JD.1,?_⟩
 refine aL (k:=.u32) (k':=k) (by rw[aa,ao (by simp only[ab];omega)]) hA hB ?_
 refine co (k:=k) (m:=k.wrap ((b5 r).1:Int)) (n:=1) (v:=.int k (k.wrap (k.wrap ((b5 r).1:Int)-1))) (by rw[aa,ao (by simp only[ab];omega)]) rfl (by simp) (by simp[binOp,Op.intArith]) (ak (wpList_nil ?_))
 rw[aa,ao (by simp only[ab];omega)]
 exact h _ w' ((((((Pv.refl _ _ _ _ _).put _ (by omega)).put _ (by omega)).put _ (by omega)).put _ (by omega)).put _ (by omega)) (ao (by simp only[ab];omega)) JD.2.1 JD.2.2
theorem rT (r:RS):IntKind.i64.wrap (IntKind.i64.wrap ((b5 r).1:Int)-1)=((b5 r).1:Int)-1:=by
 have h:=jA r
 simp[IntKind.wrap,IntKind.bits,IntKind.signed]
 omega
theorem B1 (r:RS):IntKind.i32.wrap (IntKind.i32.wrap ((b5 r).1:Int)-1)=cW (cW (b5 r).1-1):=by
 have hw:∀ x:Int,IntKind.i32.wrap x=cW x:=by
  intro x
  simp[IntKind.wrap,IntKind.bits,IntKind.signed,cW]
  split<;>omega
 rw[hw,hw]
theorem y7 {w:World}{n TT:Nat}{k:IntKind}{x:Int}{z:Value}{a:Act}{KK E:Act->World->Prop}(h3:a.get 3=.int k x)(hn:n+2<=a.tmps.size)(OS:3<n)
  (IF:x<0->∀ a',a'.defers=a.defers->a'.get 2=z->E a' w) (Jt:¬ x<0->∀ a',Pv n 0 0 n a a'->KK a' w):aK P (sY TT k z n).1 (Rt KK E) a w:=by
 have key:∀ (b:Bool) (K':Act->World->Prop) (Q':Exit->Act->World->Prop),b=decide (x<0)->(∀ a',a'.eval (tm (n+1))=.bool b->Pv n 0 0 n a a'->K' a' w) ->
   wpList P [mk (some n) (.move (tm 3)),mk (some (n+1)) (.binOp .lss TT (tm n) (ki k 0) 0)].toArray (Exit.then K' Q') [mk (some n) (.move (tm 3)),mk (some (n+1)) (.binOp .lss TT (tm n) (ki k 0) 0)] a w:=by
  intro b K' Q' hb hK
  refine ah ?_
  rw[aa,h3]
  refine bk (b:=b) (p:=x) (q:=0) (k:=k) (by rw[aa,ao (by omega)]) rfl (.inr (.inr (.inl ⟨rfl,hb⟩))) (wpList_nil (hK _ ?_ (((Pv.refl _ _ _ _ _).put _ (by omega)).put _ (by omega))))
  rw[aa,ao (by simp only[ab];omega)]
 by_cases hx:x<0
 ·refine cL (key true _ _ (by simp[hx]) fun a' he hp=>⟨he,?_⟩)
  have hs:=hp.size
  exact aY (ad (cV (x:=2) (m:=0) (k0:=0) (.inl rfl) (by omega) fun a2 HZ Ij=>ad (.ret (IF hx a2 (HZ.defers.trans hp.defers) Ij))))
 ·exact cD (key false _ _ (by simp;omega) fun a' he hp=>⟨he,.skip (Jt hx a' hp)⟩)
theorem Bk (kt:KT P g K){w:World}{n TT:Nat}{k:IntKind}{x:Int}{a:Act}{KK E:Act->World->Prop}(h3:a.get 3=.int k x)(hn:n+3<=a.tmps.size)(OS:3<n)
  (IF:x=-1->∀ a',a'.defers=a.defers->a'.get 2=.slice (some ⟨w.heap.size,0,none⟩) 0 0->E a' (w.alloc (.cells #[] K.tU8 (0,0)))) (Jt:¬ x=-1->∀ a',Pv n 0 0 n a a'->KK a' w):aK P (yA K TT k n).1 (Rt KK E) a w:=by
 have key:∀ (b:Bool) (K':Act->World->Prop) (Q':Exit->Act->World->Prop),b=decide (x=-1)->(∀ a',a'.eval (tm (n+1))=.bool b->Pv n 0 0 n a a'->K' a' w) ->
   wpList P [mk (some n) (.move (tm 3)),mk (some (n+1)) (.binOp .eql TT (tm n) (ki k (-1)) 0)].toArray (Exit.then K' Q') [mk (some n) (.move (tm 3)),mk (some (n+1)) (.binOp .eql TT (tm n) (ki k (-1)) 0)] a w:=by
  intro b K' Q' hb hK
  refine ah ?_
  rw[aa,h3]
  refine bk (b:=b) (p:=x) (q:=-1) (k:=k) (by rw[aa,ao (by omega)]) rfl (.inr (.inr (.inr (.inr (.inl ⟨rfl,hb⟩))))) (wpList_nil (hK _ ?_ (((Pv.refl _ _ _ _ _).put _ (by omega)).put _ (by omega))))
  rw[aa,ao (by simp only[ab];omega)]
 by_cases hx:x=-1
 ·refine cL (key true _ _ (by simp[hx]) fun a' he hp=>⟨he,?_⟩)
  have hs:=hp.size
  refine aY (ad (aq (jt kt.sl kt.u8.size (ak (wpList_nil (ad (.ret (IF hx _ ?_ ?_))))))))
  ·simp only[aj];exact hp.defers
  ·rw[ao (by simp only[ab];omega),aa,ao (by omega)]
 ·exact cD (key false _ _ (by simp[hx]) fun a' he hp=>⟨he,.skip (Jt hx a' hp)⟩)
theorem rdOk_cstr (kt:KT P g K)(ks:KSub P g K T)(Lo:b7 g.uv=true)(Kv:b7 g.span=true){f ntmps:Nat}(hfn:FnIs P f ntmps [2] (cCStr g K))(Iv:12<=ntmps):RdOk P T .cstr f:=by
 refine⟨hfn.ent,fun w S R r hR hRS=>gh kt.mixed hfn (by omega) fun a h0 hs hd=>?_⟩
 refine ad (cV (x:=2) (m:=0) (k0:=0) (.inl rfl) (by omega) fun a1 HX _=>?_)
 have If:=HX.size
 rw[show(aR 2 (.string ⟨#[]⟩) 4).2=4 from rfl]
 refine ad (qi kt ks Lo hR hRS kt.dU32 kt.dInt (ee HX h0 (by omega) (by omega)) (by omega) (by omega) fun a2 w2 HZ Ij I1 Ic=>?_)
 rw[rT]at Ij
 have Iw:=HZ.size
 rw[show(ls g K.tU32 K.tInt .i64 4).2=8 from rfl]
 refine ad (aq (mW ks Kv (ee HZ (ee HX h0 (by omega) (by omega)) (by omega) (by omega)) Ij I1 hRS (by omega) (by omega) fun a3 w3 v Ie I2 IT Il Nf=>?_))
 have IJ:=Ie.size
 refine js kt ks (by rw[aa];exact I2) Nf (ak (wpList_nil (ad (.ret ⟨?_,?_⟩))))
 ·simp only[aj];rw[Ie.defers,HZ.defers,HX.defers];exact hd
 ·rw[ao (by simp only[ab];omega),aa,ao (by omega)]
  have Ib:=lf ((b5 r).1-1) I1
  exact⟨_,rfl,IT,Ic.trans Il,fun X _ _=>⟨_,rfl,rfl,Ib⟩⟩
theorem rm (kt:KT P g K)(ks:KSub P g K T){w:World}{S m:Nat}{v:Value}{r':RS}{a:Act}{KK:Act->World->Prop}{Q:Exit->Act->World->Prop}{ops:Array Oper}{y:Nat}(hy:a.get y=v)(hv:bD w S v r')(hm:m<a.tmps.size)(hm4:4<m)
  (h:∀ a' w',a'.defers=a.defers->a'.tmps.size=a.tmps.size->a'.get 4=pt w.heap.size 0->ac (fun _=>False) w w'->w'.cell? ⟨w.heap.size,0,none⟩=some (.string ⟨r'.src.toArray⟩)->KK a' w') :
  wpList P ops (Exit.then KK Q) [mk (some m) (.convert K.tSl K.tStr (tm y)),mk (some 4) (.alloc K.tStr),mk none (.store K.tStr (tm 4) (tm m))] a w:=by
 refine js kt ks (by rw[aa];exact hy) hv ?_
 refine cZ (ks.zStr w) ?_
 have Kk:(w.alloc (.cells (Value.string ⟨#[]⟩).cells K.tStr (0,0))).heap[w.heap.size]?=some (.cells #[.string ⟨#[]⟩] K.tStr (0,0)):=heap_alloc_new _ _
 refine bm (g:=w.heap.size) (o:=0) (cur:=#[.string ⟨#[]⟩]) (t:=K.tStr) (v:=.string ⟨r'.src.toArray⟩) (vs:=[.string ⟨r'.src.toArray⟩]) (by rw[aa,ao (by simp only[ab];omega)]) (by rw[aa,al (by omega),ao (by omega)]) rfl (ks.vStr.size _) Kk (by simp) (fun u hu=>by simp at hu;rw[hu];rfl) (wpList_nil ?_)
 refine h _ _ (by simp only[aj]) (by simp only[ab]) (ao (by simp only[ab];omega)) (dH _ _ _ _) ?_
 rw[cell_setRow_same _ _ _ _ _ _ _ Kk]
 have:=bA (cur:=#[Value.string ⟨#[]⟩]) (o:=0) (vs:=[Value.string ⟨r'.src.toArray⟩]) (by simp) 0 (by simp)
 simpa using this
theorem rdOk_nstr (kt:KT P g K)(ks:KSub P g K T)(NV:b7 (g.rd .i16)=true)(Kv:b7 g.span=true){f ntmps:Nat}(hfn:FnIs P f ntmps [2] (cNStr g K))(Iv:14<=ntmps):RdOk P T .nstr f:=by
 refine⟨hfn.ent,fun w S R r hR hRS=>gh kt.mixed hfn (by omega) fun a h0 hs hd=>?_⟩
 refine ad (cV (x:=2) (m:=0) (k0:=0) (.inl rfl) (by omega) fun a1 HX _=>?_)
 have If:=HX.size
 rw[show(aR 2 (.pointer none) 5).2=5 from rfl]
 refine ad (rk (r':=(rI 2 r).2) (ks.e16 NV) (ks.c16 NV w S R r hR hRS) (ee HX h0 (by omega) (by omega)) (by omega) (by omega) fun a2 w2 HZ Ij I1 Ic=>?_)
 have Iw:=HZ.size
 rw[show(nS (g.rd .i16) 5).2=7 from rfl]
 have IG:a2.defers=[]:=by rw[HZ.defers,HX.defers];exact hd
 refine ad ?_
 rw[aO]
 refine y7 Ij (by omega) (by omega) (fun hx a' hd' I0=>⟨hd'.trans IG,?_⟩) (fun hx a3 Ie=>?_)
 ·rw[I0]
  have Im:PF.run .nstr r=(.nul,(rI 2 r).2):=by simp[PF.run,hx]
  rw[Im]
  exact⟨_,rfl,I1,Ic,fun X _ _=>.inl ⟨rfl,rfl⟩⟩
 ·have IJ:=Ie.size
  have Im:PF.run .nstr r=mo (rI 2 r).1 (rI 2 r).2:=by simp[PF.run,hx]
  rw[Im]
  rw[show(sY K.tI16 .i16 (.pointer none) 7).2=9 from rfl]
  have NW:a3.get 0=pt R 0:=ee Ie (ee HZ (ee HX h0 (by omega) (by omega)) (by omega) (by omega)) (by omega) (by omega)
  refine ad (aq (kH ks Kv (.inl rfl) kt.dI16 kt.dInt (jB (.inl rfl)) NW ((Ie.get 3 (by omega) (.inr ⟨by omega,by omega⟩)).trans Ij) I1 hRS (by omega) (by omega) fun a4 w4 v Ix IU IS It Mm=>?_))
  have Kb:=Ix.size
  refine rm kt ks IU Mm (by omega) (by omega) fun a5 w5 MC N2 Kg Jc Qy=>?_
  have Ib:=lf (rI 2 r).1 I1
  have Ii:w.heap.size<=w4.heap.size:=Nat.le_trans Ic.size It.size
  refine ad (aq (ak (wpList_nil (ad (.ret ⟨?_,?_⟩)))))
  ·simp only[aj];rw[MC,Ix.defers,Ie.defers];exact IG
  ·rw[ao (by omega),aa,Kg]
   refine⟨_,rfl,IS.keep Jc id id,(Ic.trans It).trans (Jc.mono fun _ _ h=>h.elim),fun X hX hS=>.inr ⟨_,w4.heap.size,0,rfl,fun h=>?_,Qy,rfl,Ib⟩⟩
   have:=hX _ h
   omega
theorem rdOk_cnstr (kt:KT P g K)(ks:KSub P g K T)(Lo:b7 g.uv=true)(Kv:b7 g.span=true){f ntmps:Nat}(hfn:FnIs P f ntmps [2] (cCNStr g K))(Iv:15<=ntmps):RdOk P T .cnstr f:=by
 refine⟨hfn.ent,fun w S R r hR hRS=>gh kt.mixed hfn (by omega) fun a h0 hs hd=>?_⟩
 refine ad (cV (x:=2) (m:=0) (k0:=0) (.inl rfl) (by omega) fun a1 HX _=>?_)
 have If:=HX.size
 rw[show(aR 2 (.pointer none) 5).2=5 from rfl]
 refine ad (qi kt ks Lo hR hRS kt.dU32 kt.dInt (ee HX h0 (by omega) (by omega)) (by omega) (by omega) fun a2 w2 HZ Ij I1 Ic=>?_)
 rw[rT]at Ij
 have Iw:=HZ.size
 rw[show(ls g K.tU32 K.tInt .i64 5).2=9 from rfl]
 have IG:a2.defers=[]:=by rw[HZ.defers,HX.defers];exact hd
 refine ad ?_
 rw[aO]
 refine y7 Ij (by omega) (by omega) (fun hx a' hd' I0=>⟨hd'.trans IG,?_⟩) (fun hx a3 Ie=>?_)
 ·rw[I0]
  have Im:PF.run .cnstr r=(.nul,(b5 r).2):=by simp only[PF.run,hx,if_true]
  rw[Im]
  exact⟨_,rfl,I1,Ic,fun X _ _=>.inl ⟨rfl,rfl⟩⟩
 ·have IJ:=Ie.size
  have Im:PF.run .cnstr r=mo ((b5 r).1-1:Int) (b5 r).2:=by simp only[PF.run,hx,if_false]
  rw[Im]
  rw[show(sY K.tInt .i64 (.pointer none) 9).2=11 from rfl]
  have NW:a3.get 0=pt R 0:=ee Ie (ee HZ (ee HX h0 (by omega) (by omega)) (by omega) (by omega)) (by omega) (by omega)
  refine ad (aq (mW ks Kv NW ((Ie.get 3 (by omega) (.inr ⟨by omega,by omega⟩)).trans Ij) I1 hRS (by omega) (by omega) fun a4 w4 v Ix IU IS It Mm=>?_))
  have Kb:=Ix.size
  refine rm kt ks IU Mm (by omega) (by omega) fun a5 w5 MC N2 Kg Jc Qy=>?_
  have Ib:=lf ((b5 r).1-1) I1
  have Ii:w.heap.size<=w4.heap.size:=Nat.le_trans Ic.size It.size
  refine ad (aq (ak (wpList_nil (ad (.ret ⟨?_,?_⟩)))))
  ·simp only[aj];rw[MC,Ix.defers,Ie.defers];exact IG
  ·rw[ao (by omega),aa,Kg]
   refine⟨_,rfl,IS.keep Jc id id,(Ic.trans It).trans (Jc.mono fun _ _ h=>h.elim),fun X hX hS=>.inr ⟨_,w4.heap.size,0,rfl,fun h=>?_,Qy,rfl,Ib⟩⟩
   have:=hX _ h
   omega
end
def nU (K:Kn):GC:=dM 7 8 (fun n=>gW K 0 n++[bi (some (n+4)) .len [tm (n+3)] [K.tSl] K.tInt,mk (some (n+5)) (.move (tm 3)),mk (some (n+6)) (.convert K.tI32 K.tInt (tm (n+5))),mk (some (n+7)) (.binOp .lss K.tInt (tm (n+4)) (tm (n+6)) 0)]) (rn K (.int .i32 0)) bp
def cLen (g:G)(K:Kn):Code:=(gS [aR 2 (.int .i32 0),nS (g.rd .i32),nU K,b6 3 2,aS .ret] 4).1
def cCLen (g:G)(K:Kn):Code:=(gS [aR 2 (.int .i32 0),ls g K.tU32 K.tI32 .i32,nU K,b6 3 2,aS .ret] 4).1
section
variable {P:Program} {g:G} {K:Kn} {T:Nat}
theorem BU (kt:KT P g K)(ks:KSub P g K T)(Mh:b7 (g.rd .i32)=true)(Kv:b7 g.span=true){f ntmps:Nat}(hfn:FnIs P f ntmps [2] (E2 g K))(Iv:13<=ntmps):RdOk P T .bytes f:=by
 refine⟨hfn.ent,fun w S R r hR hRS=>gh kt.mixed hfn (by omega) fun a h0 hs hd=>?_⟩
 refine ad (cV (x:=2) (m:=0) (k0:=0) (.inl rfl) (by omega) fun a1 HX _=>?_)
 have If:=HX.size
 rw[show(aR 2 (.slice none 0 0) 4).2=4 from rfl]
 refine ad (rk (r':=(rI 4 r).2) (ks.e32 Mh) (ks.c32 Mh w S R r hR hRS) (ee HX h0 (by omega) (by omega)) (by omega) (by omega) fun a2 w2 HZ Ij I1 Ic=>?_)
 have Iw:=HZ.size
 rw[show(nS (g.rd .i32) 4).2=6 from rfl]
 have IG:a2.defers=[]:=by rw[HZ.defers,HX.defers];exact hd
 refine ad ?_
 rw[aO]
 refine Bk kt Ij (by omega) (by omega) (fun hx a' hd' I0=>⟨hd'.trans IG,?_⟩) (fun hx a3 Ie=>?_)
 ·rw[I0]
  have Im:PF.run .bytes r=(.s [],(rI 4 r).2):=by simp[PF.run,hx]
  rw[Im]
  have KN:ac (fun _=>False) w2 (w2.alloc (.cells #[] K.tU8 (0,0))):=ac.alloc _ _ _
  have Ii:=Ic.size
  refine⟨_,rfl,I1.keep KN id id,Ic.trans (KN.mono fun _ _ h=>h.elim),fun X hX hS=>.inr ⟨[],w2.heap.size,0,0,rfl,fun h=>?_,by simp,Nat.le_refl _,by simp,fun i x hi=>by simp at hi,rfl⟩⟩
  have:=hX _ h
  omega
 ·have IJ:=Ie.size
  have Im:PF.run .bytes r=bt (rI 4 r).1 (rI 4 r).2:=by simp[PF.run,hx]
  rw[Im]
  rw[show(yA K K.tI32 .i32 6).2=9 from rfl]
  have NW:a3.get 0=pt R 0:=ee Ie (ee HZ (ee HX h0 (by omega) (by omega)) (by omega) (by omega)) (by omega) (by omega)
  refine ad (aq (kH ks Kv (.inr rfl) kt.dI32 kt.dInt (jB (.inr rfl)) NW ((Ie.get 3 (by omega) (.inr ⟨by omega,by omega⟩)).trans Ij) I1 hRS (by omega) (by omega) fun a4 w4 v Ix IU IS It Mm=>ak (wpList_nil (ad (.ret ⟨?_,?_⟩)))))
  ·simp only[aj];rw[Ix.defers,Ie.defers];exact IG
  ·rw[aa,IU,ao (by have:=Ix.size;omega)]
   exact⟨v,rfl,IS,Ic.trans It,fun X _ hS=>jf hS Mm⟩
theorem AS (kt:KT P g K)(ks:KSub P g K T)(Lo:b7 g.uv=true)(Kv:b7 g.span=true){f ntmps:Nat}(hfn:FnIs P f ntmps [2] (AB g K))(Iv:14<=ntmps):RdOk P T .cbytes f:=by
 refine⟨hfn.ent,fun w S R r hR hRS=>gh kt.mixed hfn (by omega) fun a h0 hs hd=>?_⟩
 refine ad (cV (x:=2) (m:=0) (k0:=0) (.inl rfl) (by omega) fun a1 HX _=>?_)
 have If:=HX.size
 rw[show(aR 2 (.slice none 0 0) 4).2=4 from rfl]
 refine ad (qi kt ks Lo hR hRS kt.dU32 kt.dInt (ee HX h0 (by omega) (by omega)) (by omega) (by omega) fun a2 w2 HZ Ij I1 Ic=>?_)
 rw[rT]at Ij
 have Iw:=HZ.size
 rw[show(ls g K.tU32 K.tInt .i64 4).2=8 from rfl]
 have IG:a2.defers=[]:=by rw[HZ.defers,HX.defers];exact hd
 refine ad ?_
 rw[aO]
 refine Bk kt Ij (by omega) (by omega) (fun hx a' hd' I0=>⟨hd'.trans IG,?_⟩) (fun hx a3 Ie=>?_)
 ·rw[I0]
  have Im:PF.run .cbytes r=(.s [],(b5 r).2):=by simp only[PF.run,hx,if_true]
  rw[Im]
  have KN:ac (fun _=>False) w2 (w2.alloc (.cells #[] K.tU8 (0,0))):=ac.alloc _ _ _
  have Ii:=Ic.size
  refine⟨_,rfl,I1.keep KN id id,Ic.trans (KN.mono fun _ _ h=>h.elim),fun X hX hS=>.inr ⟨[],w2.heap.size,0,0,rfl,fun h=>?_,by simp,Nat.le_refl _,by simp,fun i x hi=>by simp at hi,rfl⟩⟩
  have:=hX _ h
  omega
 ·have IJ:=Ie.size
  have Im:PF.run .cbytes r=bt ((b5 r).1-1:Int) (b5 r).2:=by simp only[PF.run,hx,if_false]
  rw[Im]
  rw[show(yA K K.tInt .i64 8).2=11 from rfl]
  have NW:a3.get 0=pt R 0:=ee Ie (ee HZ (ee HX h0 (by omega) (by omega)) (by omega) (by omega)) (by omega) (by omega)
  refine ad (aq (mW ks Kv NW ((Ie.get 3 (by omega) (.inr ⟨by omega,by omega⟩)).trans Ij) I1 hRS (by omega) (by omega) fun a4 w4 v Ix IU IS It Mm=>ak (wpList_nil (ad (.ret ⟨?_,?_⟩)))))
  ·simp only[aj];rw[Ix.defers,Ie.defers];exact IG
  ·rw[aa,IU,ao (by have:=Ix.size;omega)]
   exact⟨v,rfl,IS,Ic.trans It,fun X _ hS=>jf hS Mm⟩
theorem AR (kt:KT P g K)(ks:KSub P g K T)(Mh:b7 (g.rd .i32)=true)(Kv:b7 g.span=true){f ntmps:Nat}(hfn:FnIs P f ntmps [2] (AA g K))(Iv:14<=ntmps):RdOk P T .nbytes f:=by
 refine⟨hfn.ent,fun w S R r hR hRS=>gh kt.mixed hfn (by omega) fun a h0 hs hd=>?_⟩
 refine ad (cV (x:=2) (m:=0) (k0:=0) (.inl rfl) (by omega) fun a1 HX _=>?_)
 have If:=HX.size
 rw[show(aR 2 (.slice none 0 0) 5).2=5 from rfl]
 refine ad (rk (r':=(rI 4 r).2) (ks.e32 Mh) (ks.c32 Mh w S R r hR hRS) (ee HX h0 (by omega) (by omega)) (by omega) (by omega) fun a2 w2 HZ Ij I1 Ic=>?_)
 have Iw:=HZ.size
 rw[show(nS (g.rd .i32) 5).2=7 from rfl]
 have IG:a2.defers=[]:=by rw[HZ.defers,HX.defers];exact hd
 refine ad ?_
 rw[aO]
 refine y7 Ij (by omega) (by omega) (fun hx a' hd' I0=>⟨hd'.trans IG,?_⟩) (fun hx a3 Ie=>?_)
 ·rw[I0]
  have Im:PF.run .nbytes r=(.nul,(rI 4 r).2):=by simp only[PF.run,hx,if_true]
  rw[Im]
  exact⟨_,rfl,I1,Ic,fun X _ _=>.inl ⟨rfl,rfl⟩⟩
 ·have IJ:=Ie.size
  have Im:PF.run .nbytes r=bt (rI 4 r).1 (rI 4 r).2:=by simp only[PF.run,hx,if_false]
  rw[Im]
  rw[show(sY K.tI32 .i32 (.slice none 0 0) 7).2=9 from rfl]
  have NW:a3.get 0=pt R 0:=ee Ie (ee HZ (ee HX h0 (by omega) (by omega)) (by omega) (by omega)) (by omega) (by omega)
  refine ad (aq (kH ks Kv (.inr rfl) kt.dI32 kt.dInt (jB (.inr rfl)) NW ((Ie.get 3 (by omega) (.inr ⟨by omega,by omega⟩)).trans Ij) I1 hRS (by omega) (by omega) fun a4 w4 v Ix IU IS It Mm=>ak (wpList_nil ?_)))
  have Kb:=Ix.size
  refine ad (e7 (x:=2) (m:=0) (k0:=0) (.inl rfl) (Nat.le_refl _) (by omega) (by simp only[ab,ay];omega) (by simp only[ab];omega) fun a5 Js Kg=>ad (.ret ⟨?_,?_⟩))
  ·rw[Js.defers];simp only[aj];rw[Ix.defers,Ie.defers];exact IG
  ·rw[Kg,ao (by omega),aa,IU]
   exact⟨v,rfl,IS,Ic.trans It,fun X _ hS=>jf hS Mm⟩
theorem u3 (kt:KT P g K){w:World}{S R n:Nat}{r:RS}{x:Int}{a:Act}{KK E:Act->World->Prop}(h0:a.get 0=pt R 0)(h3:a.get 3=.int .i32 x)(hx:-2147483648<=x/\x<2147483648)(hR:cy w T S R r)(hRS:S≠R)(hn:n+14<=a.tmps.size)(OS:3<n)
  (IF:(r.src.length:Int)<x->∀ a' w',a'.defers=a.defers->a'.get 2=.int .i32 0->cy w' T S R .fail->ac (·=R) w w'->E a' w') (Jt:¬ (r.src.length:Int)<x->∀ a',Pv n 0 0 n a a'->KK a' w):aK P (nU K n).1 (Rt KK E) a w:=by
 obtain⟨v,hv⟩:=hR
 obtain⟨base,c,LH,_⟩:=hv.2.len
 have hw:IntKind.i64.wrap x=x:=by simp[IntKind.wrap,IntKind.bits,IntKind.signed];omega
 have key:∀ (b:Bool) (K':Act->World->Prop) (Q':Exit->Act->World->Prop),b=decide ((r.src.length:Int)<x)->(∀ a',a'.eval (tm (n+7))=.bool b->Pv n 0 0 n a a'->K' a' w) ->
   wpList P (gW K 0 n++[bi (some (n+4)) .len [tm (n+3)] [K.tSl] K.tInt,mk (some (n+5)) (.move (tm 3)),mk (some (n+6)) (.convert K.tI32 K.tInt (tm (n+5))),mk (some (n+7)) (.binOp .lss K.tInt (tm (n+4)) (tm (n+6)) 0)]).toArray (Exit.then K' Q')
   (gW K 0 n++[bi (some (n+4)) .len [tm (n+3)] [K.tSl] K.tInt,mk (some (n+5)) (.move (tm 3)),mk (some (n+6)) (.convert K.tI32 K.tInt (tm (n+5))),mk (some (n+7)) (.binOp .lss K.tInt (tm (n+4)) (tm (n+6)) 0)]) a w:=by
  intro b K' Q' hb hK
  refine iP kt h0 hv (by omega) fun a2 HZ Ij=>?_
  have Iw:=HZ.size
  have WE:a2.get 3=.int .i32 x:=(HZ.get 3 (by omega) (.inr ⟨by omega,by omega⟩)).trans h3
  refine dV (n:=r.src.length) (c:=c) (base:=base) (by rw[aa,Ij,LH]) kt.sl ?_
  refine ah ?_
  rw[aa,al (by omega),WE]
  refine aL (k:=.i32) (k':=.i64) (by rw[aa,ao (by simp only[ab];omega)]) kt.dI32 kt.dInt ?_
  rw[hw]
  refine bk (b:=b) (p:=(r.src.length:Int)) (q:=x) (k:=.i64) (by rw[aa,al (by omega),al (by omega),ao (by omega)]) (by rw[aa,ao (by simp only[ab];omega)]) (.inr (.inr (.inl ⟨rfl,hb⟩))) (wpList_nil (hK _ ?_ ((((HZ.put _ (by omega)).put _ (by omega)).put _ (by omega)).put _ (by omega))))
  rw[aa,ao (by simp only[ab];omega)]
 by_cases Id:(r.src.length:Int)<x
 ·refine cL (key true _ _ (by simp[Id]) fun a' he hp=>⟨he,?_⟩)
  have hs:=hp.size
  exact sX kt ((hp.get 0 (by omega) (.inr ⟨by omega,by omega⟩)).trans h0) hv hRS (by omega) (by omega) fun a3 w3 J9 I2 IT Il=>IF Id a3 w3 (J9.trans hp.defers) I2 IT Il
 ·exact cD (key false _ _ (by simp[Id]) fun a' he hp=>⟨he,.skip (Jt Id a' hp)⟩)
theorem len_calls (kt:KT P g K)(ks:KSub P g K T)(Mh:b7 (g.rd .i32)=true){f ntmps:Nat}(hfn:FnIs P f ntmps [2] (cLen g K))(Iv:21<=ntmps){w:World}{S R:Nat}{r:RS}(hR:cy w T S R r)(hRS:S≠R) :
  Calls P f #[pt R 0] w fun e w'=>e=.returned (.int .i32 (cA false r).1)/\cy w' T S R (cA false r).2/\ac (·=R) w w':=by
 refine gh kt.mixed hfn (by omega) fun a h0 hs hd=>?_
 refine ad (cV (x:=2) (m:=0) (k0:=0) (.inl rfl) (by omega) fun a1 HX _=>?_)
 have If:=HX.size
 rw[show(aR 2 (.int .i32 0) 4).2=4 from rfl]
 refine ad (rk (r':=(rI 4 r).2) (ks.e32 Mh) (ks.c32 Mh w S R r hR hRS) (ee HX h0 (by omega) (by omega)) (by omega) (by omega) fun a2 w2 HZ Ij I1 Ic=>?_)
 have Iw:=HZ.size
 rw[show(nS (g.rd .i32) 4).2=6 from rfl]
 have IG:a2.defers=[]:=by rw[HZ.defers,HX.defers];exact hd
 have QY:a2.get 0=pt R 0:=ee HZ (ee HX h0 (by omega) (by omega)) (by omega) (by omega)
 refine ad ?_
 rw[aO]
 refine u3 kt QY Ij (jB (.inr rfl)) I1 hRS (by omega) (by omega) (fun Id a' w' hd' I0 PH J1=>⟨hd'.trans IG,?_⟩) (fun Id a3 Ie=>?_)
 ·have hr:cA false r=(0,.fail):=by simp only[cA,Bool.false_eq_true,if_false,Id,if_true]
  rw[hr,I0]
  exact⟨rfl,PH,Ic.trans J1⟩
 ·have hr:cA false r=rI 4 r:=by simp only[cA,Bool.false_eq_true,if_false,Id]
  have IJ:=Ie.size
  rw[hr]
  rw[show(nU K 6).2=20 from rfl]
  refine ad (e7 (x:=2) (m:=0) (k0:=0) (.inl rfl) (Nat.le_refl _) (by omega) (by omega) (by omega) fun a4 Ix IU=>ad (.ret ⟨?_,?_⟩))
  ·rw[Ix.defers,Ie.defers];exact IG
  ·rw[IU,Ie.get 3 (by omega) (.inr ⟨by omega,by omega⟩),Ij]
   exact⟨rfl,I1,Ic⟩
theorem clen_calls (kt:KT P g K)(ks:KSub P g K T)(Lo:b7 g.uv=true){f ntmps:Nat}(hfn:FnIs P f ntmps [2] (cCLen g K))(Iv:23<=ntmps){w:World}{S R:Nat}{r:RS}(hR:cy w T S R r)(hRS:S≠R) :
  Calls P f #[pt R 0] w fun e w'=>e=.returned (.int .i32 (cA true r).1)/\cy w' T S R (cA true r).2/\ac (·=R) w w':=by
 refine gh kt.mixed hfn (by omega) fun a h0 hs hd=>?_
 refine ad (cV (x:=2) (m:=0) (k0:=0) (.inl rfl) (by omega) fun a1 HX _=>?_)
 have If:=HX.size
 rw[show(aR 2 (.int .i32 0) 4).2=4 from rfl]
 refine ad (qi kt ks Lo hR hRS kt.dU32 kt.dI32 (ee HX h0 (by omega) (by omega)) (by omega) (by omega) fun a2 w2 HZ Ij I1 Ic=>?_)
 rw[B1]at Ij
 have Iw:=HZ.size
 rw[show(ls g K.tU32 K.tI32 .i32 4).2=8 from rfl]
 have IG:a2.defers=[]:=by rw[HZ.defers,HX.defers];exact hd
 have QY:a2.get 0=pt R 0:=ee HZ (ee HX h0 (by omega) (by omega)) (by omega) (by omega)
 have PK:-2147483648<=cW (cW (b5 r).1-1)/\cW (cW (b5 r).1-1)<2147483648:=by simp only[cW];omega
 refine ad ?_
 rw[aO]
 refine u3 kt QY Ij PK I1 hRS (by omega) (by omega) (fun Id a' w' hd' I0 PH J1=>⟨hd'.trans IG,?_⟩) (fun Id a3 Ie=>?_)
 ·have hr:cA true r=(0,.fail):=by simp only[cA,if_true,Id]
  rw[hr,I0]
  exact⟨rfl,PH,Ic.trans J1⟩
 ·have hr:cA true r=(cW (cW (b5 r).1-1),(b5 r).2):=by simp only[cA,if_true,Id,if_false]
  have IJ:=Ie.size
  rw[hr]
  rw[show(nU K 8).2=22 from rfl]
  refine ad (e7 (x:=2) (m:=0) (k0:=0) (.inl rfl) (Nat.le_refl _) (by omega) (by omega) (by omega) fun a4 Ix IU=>ad (.ret ⟨?_,?_⟩))
  ·rw[Ix.defers,Ie.defers];exact IG
  ·rw[IU,Ie.get 3 (by omega) (.inr ⟨by omega,by omega⟩),Ij]
   exact⟨rfl,I1,Ic⟩
end
structure KBig (P:Program)(K:Kn):Prop where
 be:bc P K.tBE true 0
 d16:P.underlying K.tU16=some (.int .u16)
 d64:b7 K.fU64=true->P.underlying K.tU64=some (.int .u64)
 dI64:b7 K.fU64=true->P.underlying K.tI64=some (.int .i64)
 f16:b7 K.fU16=true->FnIs P K.fU16 18 [4] (gBig K K.tU16 .u16 2)
 f32:b7 K.fU32=true->FnIs P K.fU32 30 [4] (gBig K K.tU32 .u32 4)
 f64:b7 K.fU64=true->FnIs P K.fU64 54 [4] (gBig K K.tU64 .u64 8)
section
variable {P:Program} {g:G} {K:Kn} {T:Nat}
theorem CJ (K:Kn)(tK:Nat):dq (jN K tK 2++[mk (some 4) (.assign (tm 17))])=List.replicate 10 false++[true]:=by kernel_rfl
theorem CI (K:Kn)(tK:Nat):dq (jN K tK 4++[mk (some 4) (.assign (tm 29))])=List.replicate 22 false++[true]:=by kernel_rfl
theorem H3 (kt:KT P g K)(kb:KBig P K)(hF:b7 K.fU16=true){w:World}{S:Nat}{r:RS}{v:Value}(h:bD w S v r)(hk:2<=r.src.length):Calls P K.fU16 #[.agg #[],v] w fun e w'=>e=.returned (.int .u16 ((cv (r.src.take 2):Nat):Int))/\ac (fun _=>False) w w':=
 pi kt (kb.f16 hF) (by omega) (.inl rfl) kb.d16 (by omega) (by simp[IntKind.bits]) kb.be ⟨_,CJ K _,rfl,rfl⟩ h hk
theorem H2 (kt:KT P g K)(kb:KBig P K)(hF:b7 K.fU32=true){w:World}{S:Nat}{r:RS}{v:Value}(h:bD w S v r)(hk:4<=r.src.length):Calls P K.fU32 #[.agg #[],v] w fun e w'=>e=.returned (.int .u32 ((cv (r.src.take 4):Nat):Int))/\ac (fun _=>False) w w':=
 pi kt (kb.f32 hF) (by omega) (.inr (.inl rfl)) kt.dU32 (by omega) (by simp[IntKind.bits]) kb.be ⟨_,CI K _,rfl,rfl⟩ h hk
theorem i16_calls (kt:KT P g K)(kb:KBig P K)(hF:b7 K.fU16=true){f ntmps:Nat}(hfn:FnIs P f ntmps [2] (cI16 K))(Iv:32<=ntmps){w:World}{S R:Nat}{r:RS}(hR:cy w T S R r)(hRS:S≠R) :
  Calls P f #[pt R 0] w (lG T S R 2 r w (.int .i16 0) (.int .i16 (IntKind.wrap .i16 ((cv (r.src.take 2):Nat):Int)))):=
 qh kt (kr:=7) (rv:=.int .i16 (IntKind.wrap .i16 ((cv (r.src.take 2):Nat):Int))) hfn rfl (by omega) hR hRS
  (fun hk v a K' Q' hv h0 hs h=>Bl (k:=2) (kind:=.u16) kt kb.be (kb.f16 hF).ent (fun w' hv'=>H3 kt kb hF hv' hk) ⟨.i16,kb.d16,kt.dI16,rfl⟩ hv h0 (by omega) h) (fun hk a w' K' Q' h3 hs h=>sW h3 (by omega) (by omega) h)
theorem i32_calls (kt:KT P g K)(kb:KBig P K)(hF:b7 K.fU32=true){f ntmps:Nat}(hfn:FnIs P f ntmps [2] (cI32 K))(Iv:32<=ntmps){w:World}{S R:Nat}{r:RS}(hR:cy w T S R r)(hRS:S≠R) :
  Calls P f #[pt R 0] w (lG T S R 4 r w (.int .i32 0) (.int .i32 (IntKind.wrap .i32 ((cv (r.src.take 4):Nat):Int)))):=
 qh kt (kr:=7) (rv:=.int .i32 (IntKind.wrap .i32 ((cv (r.src.take 4):Nat):Int))) hfn rfl (by omega) hR hRS
  (fun hk v a K' Q' hv h0 hs h=>Bl (k:=4) (kind:=.u32) kt kb.be (kb.f32 hF).ent (fun w' hv'=>H2 kt kb hF hv' hk) ⟨.i32,kt.dU32,kt.dI32,rfl⟩ hv h0 (by omega) h) (fun hk a w' K' Q' h3 hs h=>sW h3 (by omega) (by omega) h)
theorem rdOk_i16 (kt:KT P g K)(kb:KBig P K)(hF:b7 K.fU16=true){f ntmps:Nat}(hfn:FnIs P f ntmps [2] (cI16 K))(Iv:32<=ntmps):RdOk P T .i16 f:=
 ⟨hfn.ent,fun w S R r hR hRS=>(i16_calls kt kb hF hfn Iv hR hRS).mono fun e w' h=>by
  obtain⟨h1,h2,h3,h4⟩:=rdOk_int (p:=.i16) (.inr (.inl ⟨rfl,rfl⟩)) rfl h
  exact⟨_,h1,h2,h3,fun X _ _=>h4 X⟩⟩
theorem rdOk_i32 (kt:KT P g K)(kb:KBig P K)(hF:b7 K.fU32=true){f ntmps:Nat}(hfn:FnIs P f ntmps [2] (cI32 K))(Iv:32<=ntmps):RdOk P T .i32 f:=
 ⟨hfn.ent,fun w S R r hR hRS=>(i32_calls kt kb hF hfn Iv hR hRS).mono fun e w' h=>by
  obtain⟨h1,h2,h3,h4⟩:=rdOk_int (p:=.i32) (.inr (.inr (.inl ⟨rfl,rfl⟩))) rfl h
  exact⟨_,h1,h2,h3,fun X _ _=>h4 X⟩⟩
def cOk (K:Kn):Code:=(gS [aR 2 (.bool false),ay 5 fun n=>[mk (some n) (.move (tm 0)),mk (some (n+1)) (.nilCheck (tm n)),mk (some (n+2)) (.fieldAddr K.tRS (tm (n+1)) 1),mk (some (n+3)) (.load K.tB (tm (n+2))),mk (some (n+4)) (.unOp .not K.tB (tm (n+3))),mk (some 2) (.assign (tm (n+4)))],aS .ret] 3).1
def cComplete (K:Kn):Code:=(gS [aR 2 .nilIface,dM 3 4 (fun n=>[mk (some n) (.move (tm 0)),mk (some (n+1)) (.nilCheck (tm n)),mk (some (n+2)) (.fieldAddr K.tRS (tm (n+1)) 1),mk (some (n+3)) (.load K.tB (tm (n+2)))])
 (gS [ay 1 fun n=>[mk (some n) (.load K.tErr (.global K.gErr)),mk (some 2) (.assign (tm n))],aS .ret]) bp,aR 2 .nilIface,aS .ret] 3).1
theorem ok_calls (kt:KT P g K){f ntmps:Nat}(hfn:FnIs P f ntmps [2] (cOk K))(Iv:8<=ntmps){w:World}{S R:Nat}{r:RS}(hR:cy w T S R r):Calls P f #[pt R 0] w fun e w'=>e=.returned (.bool (!r.bad))/\ac (fun _=>False) w w':=by
 refine hfn.calls kt.mixed (by simp) ?_
 have Ii:=ck #[pt R 0] ntmps (by show 1<=ntmps;omega)
 have Jp:({ tmps:=#[pt R 0]++Array.replicate (ntmps-(#[pt R 0]:Array Value).size) undef,defers:=[] }:Act).get 0=pt R 0:=by rw[b9 _ _ _ (by simp)];rfl
 have Kh:({ tmps:=#[pt R 0]++Array.replicate (ntmps-(#[pt R 0]:Array Value).size) undef,defers:=[] }:Act).defers=[]:=rfl
 have hsz':({ tmps:=#[pt R 0]++Array.replicate (ntmps-(#[pt R 0]:Array Value).size) undef,defers:=[] }:Act).tmps.size=ntmps:=Ii
 generalize({ tmps:=#[pt R 0]++Array.replicate (ntmps-(#[pt R 0]:Array Value).size) undef,defers:=[] }:Act)=a at Jp Kh hsz' ⊢
 obtain⟨v,JI,_⟩:=hR
 have hc:w.cell? ⟨R,0+1,none⟩=some (.bool r.bad):=by simp[World.cell?,JI]
 refine aY (ad (cV (x:=2) (m:=0) (k0:=0) (.inl rfl) (by omega) fun a1 HX Ig=>?_))
 have If:=HX.size
 rw[show(aR 2 (.bool false) 3).2=3 from rfl]
 refine ad (aq (ah ?_))
 rw[aa,HX.get 0 (by omega) (.inr ⟨by omega,by omega⟩),Jp]
 refine aG (by rw[aa,ao (by omega)];rfl) ?_
 refine bN (by rw[aa,ao (by simp only[ab];omega)]) kt.f1 ?_
 refine bg (by rw[aa,ao (by simp only[ab];omega)]) (kt.f1.var.agg _) hc ?_
 refine mY (b:=r.bad) (by rw[aa,ao (by simp only[ab];omega)]) (ak (wpList_nil (ad (.ret ⟨?_,?_,ac.refl _ _⟩))))
 ·simp only[aj];rw[HX.defers];exact Kh
 ·simp only[bj]
  rw[ao (by simp only[ab];omega),aa,ao (by simp only[ab];omega)]
theorem complete_calls (kt:KT P g K){f ntmps:Nat}(hfn:FnIs P f ntmps [2] (cComplete K))(Iv:8<=ntmps)(hE:bc P K.tErr false 1){w:World}{S R:Nat}{r:RS}(hR:cy w T S R r)(herr:ErrAt K.gErr w) :
  Calls P f #[pt R 0] w fun e w'=>ac (fun _=>False) w w'/\∃ v,e=.returned v/\(r.bad=false->v=.nilIface)/\(r.bad=true->∃ t x,v=.iface t x):=by
 refine hfn.calls kt.mixed (by simp) ?_
 have Ii:=ck #[pt R 0] ntmps (by show 1<=ntmps;omega)
 have Jp:({ tmps:=#[pt R 0]++Array.replicate (ntmps-(#[pt R 0]:Array Value).size) undef,defers:=[] }:Act).get 0=pt R 0:=by rw[b9 _ _ _ (by simp)];rfl
 have Kh:({ tmps:=#[pt R 0]++Array.replicate (ntmps-(#[pt R 0]:Array Value).size) undef,defers:=[] }:Act).defers=[]:=rfl
 have hsz':({ tmps:=#[pt R 0]++Array.replicate (ntmps-(#[pt R 0]:Array Value).size) undef,defers:=[] }:Act).tmps.size=ntmps:=Ii
 generalize({ tmps:=#[pt R 0]++Array.replicate (ntmps-(#[pt R 0]:Array Value).size) undef,defers:=[] }:Act)=a at Jp Kh hsz' ⊢
 obtain⟨v,JI,_⟩:=hR
 have hc:w.cell? ⟨R,0+1,none⟩=some (.bool r.bad):=by simp[World.cell?,JI]
 obtain⟨te,xe,On⟩:=herr
 refine aY (ad (cV (x:=2) (m:=0) (k0:=0) (.inl rfl) (by omega) fun a1 HX Ig=>?_))
 have If:=HX.size
 rw[show(aR 2 .nilIface 3).2=3 from rfl]
 refine ad ?_
 have key:∀ (K':Act->World->Prop),(∀ a',a'.eval (tm (3+3))=.bool r.bad->Pv 3 0 0 3 a1 a'->K' a' w)->∀ Q',wpList P [mk (some 3) (.move (tm 0)),mk (some (3+1)) (.nilCheck (tm 3)),mk (some (3+2)) (.fieldAddr K.tRS (tm (3+1)) 1),mk (some (3+3)) (.load K.tB (tm (3+2)))].toArray (Exit.then K' Q')
   [mk (some 3) (.move (tm 0)),mk (some (3+1)) (.nilCheck (tm 3)),mk (some (3+2)) (.fieldAddr K.tRS (tm (3+1)) 1),mk (some (3+3)) (.load K.tB (tm (3+2)))] a1 w:=by
  intro K' hK Q'
  refine ah ?_
  rw[aa,HX.get 0 (by omega) (.inr ⟨by omega,by omega⟩),Jp]
  refine aG (by rw[aa,ao (by omega)];rfl) ?_
  refine bN (by rw[aa,ao (by simp only[ab];omega)]) kt.f1 ?_
  refine bg (by rw[aa,ao (by simp only[ab];omega)]) (kt.f1.var.agg _) hc (wpList_nil (hK _ ?_ ((((((Pv.refl _ _ _ _ _).put _ (by omega)).put _ (by omega)).put _ (by omega)).put _ (by omega)))))
  rw[aa,ao (by simp only[ab];omega)]
 cases hb:r.bad with
 | true=>
  rw[hb]at key
  refine cL (key _ (fun a' he hp=>⟨he,?_⟩) _)
  have hs:=hp.size
  refine aY (ad (aq ?_))
  have JO:a'.eval (.global K.gErr)=.pointer (some ⟨K.gErr,0,none⟩):=rfl
  refine bg JO (hE.agg _) On (ak (wpList_nil (ad (.ret ⟨?_,ac.refl _ _,.iface te xe,?_,fun h=>(by cases h),fun _=>⟨te,xe,rfl⟩⟩))))
  ·simp only[aj];rw[hp.defers,HX.defers];exact Kh
  ·simp only[bj]
   rw[ao (by simp only[ab];omega),aa,ao (by omega)]
 | false=>
  rw[hb]at key
  refine cD (key _ (fun a' he hp=>⟨he,.skip ?_⟩) _)
  have hs:=hp.size
  refine ad (cV (x:=2) (m:=0) (k0:=0) (.inl rfl) (by omega) fun a2 HZ Ij=>ad (.ret ⟨?_,ac.refl _ _,.nilIface,?_,fun _=>rfl,fun h=>(by cases h)⟩))
  ·rw[HZ.defers,hp.defers,HX.defers];exact Kh
  ·simp only[bj];rw[Ij]
end
def cSpan (K:Kn):Code:=(gS [aR 4 (.slice none 0 0),dM 10 11 (fun n=>gW K 0 n++[bi (some (n+4)) .len [tm (n+3)] [K.tSl] K.tInt,mk (some (n+5)) (.move (tm 1)),mk (some (n+6)) (.binOp .lss K.tInt (tm (n+4)) (tm (n+5)) 0),mk (some (n+7)) (.move (tm (n+6))),
  gd (n+8) (.move (tm 1)) 7 false,gd (n+9) (.binOp .lss K.tInt (tm (n+8)) (ki .i64 0) 0) 7 false,mk (some (n+10)) (.pick (tm (n+7)) (.const (.bool true)) (tm (n+9)))]) (qj K 4 (.slice none 0 0)) bp,
 ay 7 fun n=>gW K 0 n++[mk (some (n+4)) (.move (tm 1)),mk (some (n+5)) (.move (tm 1)),mk (some (n+6)) (.slice K.tSl (tm (n+3)) none (some (tm (n+4))) (some (tm (n+5)))),mk (some 5) (.assign (tm (n+6)))],
 mw K 1,b6 5 4,aS .ret] 6).1
section
variable {P:Program} {g:G} {K:Kn} {T S R:Nat} {r:RS} {n:Nat} {KK:Act->World->Prop} {Q:Exit->Act->World->Prop} {a:Act} {w:World}
def iN (v:Value)(k:Nat):Value:=
 match v with
 | .slice base _ _=>.slice (if k=0 then base else base.map (·.add 0)) k k
 | v=>v
theorem bD.cap {v:Value}{k:Nat}(h:bD w S v r)(hk:k<=r.src.length):bD w S (iN v k) ⟨(if r.nl then V.nul else .s (r.src.take k)).octets,false,(if r.nl then V.nul else .s (r.src.take k)).isNul⟩:=by
 rcases h with⟨h1,h2,h3⟩|⟨o,c,h1,h2,h3,h4,h5,h6⟩
 ·have:k=0:=by rw[h2]at hk;simpa using hk
  subst this
  rw[h3,h1]
  exact .inl ⟨rfl,rfl,rfl⟩
 ·subst h1
  rw[h2]
  have hm:min k r.src.length=k:=Nat.min_eq_left hk
  refine .inr ⟨o,k,?_,rfl,?_,by omega,h5,fun i x hi=>?_⟩
  ·by_cases h0:k=0
   ·simp[iN,h0,V.octets]
   ·simp[iN,h0,V.octets,hm,Addr.add]
  ·simp[V.octets];omega
  ·simp only[Bool.false_eq_true,if_false,V.octets,List.getElem?_take]at hi
   split at hi
   ·exact h6 i x hi
   ·cases hi
theorem rM (kt:KT P g K){ops:Array Oper}{l:List Oper}{d:Option Nat}{y hi mx:Operand}{v:Value}{k:Nat}(hy:a.eval y=v)(hv:bD w S v r)(hhi:a.eval hi=.int .i64 k)(Ph:a.eval mx=.int .i64 k)(hk:k<=r.src.length)
  (h:wpList P ops Q l (a.put d (iN v k)) w):wpList P ops Q (mk d (.slice K.tSl y none (some hi) (some mx))::l) a w:=by
 refine aB ?_ h
 obtain⟨base,c,LH,Wg,M8,Kt,hb⟩:=hv.len
 subst LH
 have hs:=kt.u8.size w
 have Ir:k<=c:=by omega
 have Jo:¬ ((k:Int)<0):=by omega
 simp[execOp,mk,hy,hhi,Ph,Instr.sliceAt,Instr.slice,run_underlying kt.sl,Instr.sliceBounds,Instr.sliceBound,asIntOf,hs,Ir,iN]
theorem y8 (kt:KT P g K){v:Value}{k l:Nat}(h0:a.get 0=pt R 0)(hl:a.get l=.int .i64 k)(hR:zt w T S R v r)(hk:k<=r.src.length)(hRS:S≠R)(hn:n+9<=a.tmps.size)(h0n:0<n)(hln:l<n)
  (h:∀ a',Pv n 0 0 n a a'->cy (w.setRow R #[fY v k,.bool r.bad]) T S R ⟨r.src.drop k,r.bad,r.nl⟩->KK a' (w.setRow R #[fY v k,.bool r.bad])):aK P (mw K l n).1 (Exit.then KK Q) a w:=by
 refine aq (ah ?_)
 rw[aa,h0]
 refine iP kt (v:=v) (by rw[al (by omega)];exact h0) hR (by simp only[ab];omega) fun a1 HX Ig=>?_
 have If:=HX.size
 rw[ab]at If
 have Oh:a1.get n=pt R 0:=by rw[HX.get n (by omega) (.inr ⟨by omega,by omega⟩),ao (by omega)]
 have MA:a1.get l=.int .i64 k:=by rw[HX.get l (by omega) (.inr ⟨by omega,by omega⟩),al (by omega)];exact hl
 have Kz:Pv n 0 0 n a a1:=((Pv.refl n 0 0 n a).put (pt R 0) (by omega)).trans ⟨HX.size,HX.defers,fun s hs hh=>HX.get s (by omega) (.inr ⟨by omega,by omega⟩)⟩
 refine ah ?_
 rw[aa,MA]
 refine mX kt (k:=k) (by rw[aa,al (by omega)];exact Ig) hR.2 (by rw[aa,ao (by omega)]) hk ?_
 refine aG (by rw[aa,al (by omega),al (by omega),Oh];rfl) ?_
 refine bN (by rw[aa,ao (by simp only[ab];omega)]) kt.f0 ?_
 obtain⟨WH,WF⟩:=jE (hR.2.cut hk)
 refine bm (cur:=#[v,.bool r.bad]) (t:=T) (v:=fY v k) (vs:=[fY v k]) (by rw[aa,ao (by simp only[ab];omega)]) (by rw[aa,al (by omega),al (by omega),ao (by simp only[ab];omega)]) (by rw[WF]) (kt.f0.var.size _) hR.1 (by simp)
  (fun u hu=>by simp at hu;rw[hu];exact WH) (wpList_nil ?_)
 have e1:aD #[v,.bool r.bad] (0+0) [fY v k]=#[fY v k,.bool r.bad]:=by simp[aD]
 rw[e1]
 refine h _ ((((Kz.put _ (by omega)).put _ (by omega)).put _ (by omega)).put _ (by omega)) ⟨_,setRow_heap _ _ _ _ _ _ hR.1,(hR.2.cut hk).keep (ac.setRow (fun k=>k=R) _ _ _ rfl) hRS⟩
theorem span_calls (kt:KT P g K){f ntmps:Nat}(hfn:FnIs P f ntmps [4] (cSpan K))(Iv:40<=ntmps){k:Int}(hR:cy w T S R r)(hRS:S≠R):Calls P f #[pt R 0,.int .i64 k] w fun e w'=>
  ∃ v,e=.returned v/\cy w' T S R (bt k r).2/\ac (·=R) w w'/\bD w' S v ⟨(bt k r).1.octets,false,(bt k r).1.isNul⟩:=by
 refine hfn.calls kt.mixed (by simp) ?_
 have Ii:=ck #[pt R 0,.int .i64 k] ntmps (by show 2<=ntmps;omega)
 have Jp:({ tmps:=#[pt R 0,.int .i64 k]++Array.replicate (ntmps-(#[pt R 0,.int .i64 k]:Array Value).size) undef,defers:=[] }:Act).get 0=pt R 0:=by rw[b9 _ _ _ (by simp)];rfl
 have Ig:({ tmps:=#[pt R 0,.int .i64 k]++Array.replicate (ntmps-(#[pt R 0,.int .i64 k]:Array Value).size) undef,defers:=[] }:Act).get 1=.int .i64 k:=by rw[b9 _ _ _ (by simp)];rfl
 have Kh:({ tmps:=#[pt R 0,.int .i64 k]++Array.replicate (ntmps-(#[pt R 0,.int .i64 k]:Array Value).size) undef,defers:=[] }:Act).defers=[]:=rfl
 have hsz':({ tmps:=#[pt R 0,.int .i64 k]++Array.replicate (ntmps-(#[pt R 0,.int .i64 k]:Array Value).size) undef,defers:=[] }:Act).tmps.size=ntmps:=Ii
 generalize({ tmps:=#[pt R 0,.int .i64 k]++Array.replicate (ntmps-(#[pt R 0,.int .i64 k]:Array Value).size) undef,defers:=[] }:Act)=a at Jp Ig Kh hsz' ⊢
 obtain⟨v,hv⟩:=hR
 refine aY (ad (cV (x:=4) (m:=0) (k0:=0) (.inl rfl) (by omega) fun a1 HX hg41=>?_))
 have If:=HX.size
 have JV:∀ s,s<4->a1.get s=a.get s:=fun s h=>HX.get s (by omega) (.inr ⟨by omega,by omega⟩)
 rw[show(aR 4 (.slice none 0 0) 6).2=6 from rfl]
 obtain⟨base,c,LH,Wg,M8,Kt,hb⟩:=hv.2.len
 have Ip:∀ (b:Bool) (K':Act->World->Prop) (Q':Exit->Act->World->Prop),b=(decide ((r.src.length:Int)<k) || decide (k<0))->(∀ a',a'.eval (tm (6+10))=.bool b->Pv 6 0 0 6 a1 a'->K' a' w) ->
   wpList P (gW K 0 6++[bi (some (6+4)) .len [tm (6+3)] [K.tSl] K.tInt,mk (some (6+5)) (.move (tm 1)),mk (some (6+6)) (.binOp .lss K.tInt (tm (6+4)) (tm (6+5)) 0),mk (some (6+7)) (.move (tm (6+6))),
    gd (6+8) (.move (tm 1)) 7 false,gd (6+9) (.binOp .lss K.tInt (tm (6+8)) (ki .i64 0) 0) 7 false,mk (some (6+10)) (.pick (tm (6+7)) (.const (.bool true)) (tm (6+9)))]).toArray (Exit.then K' Q')
   (gW K 0 6++[bi (some (6+4)) .len [tm (6+3)] [K.tSl] K.tInt,mk (some (6+5)) (.move (tm 1)),mk (some (6+6)) (.binOp .lss K.tInt (tm (6+4)) (tm (6+5)) 0),mk (some (6+7)) (.move (tm (6+6))),
    gd (6+8) (.move (tm 1)) 7 false,gd (6+9) (.binOp .lss K.tInt (tm (6+8)) (ki .i64 0) 0) 7 false,mk (some (6+10)) (.pick (tm (6+7)) (.const (.bool true)) (tm (6+9)))]) a1 w:=by
  intro b K' Q' hb hK
  refine iP kt ((JV 0 (by omega)).trans Jp) hv (by omega) fun a2 HZ Ij=>?_
  have Iw:=HZ.size
  have OB:a2.get 1=.int .i64 k:=by rw[HZ.get 1 (by omega) (.inr ⟨by omega,by omega⟩),JV 1 (by omega)];exact Ig
  refine dV (n:=r.src.length) (c:=c) (base:=base) (by rw[aa,Ij,LH]) kt.sl ?_
  refine ah ?_
  rw[aa,al (by omega),OB]
  refine bk (b:=decide ((r.src.length:Int)<k)) (p:=(r.src.length:Int)) (q:=k) (k:=.i64) (by rw[aa,al (by omega),ao (by omega)]) (by rw[aa,ao (by simp only[ab];omega)]) (.inr (.inr (.inl ⟨rfl,rfl⟩))) ?_
  refine ah ?_
  rw[aa,ao (by simp only[ab];omega)]
  have Ie:Pv 6 0 0 6 a1 ((((a2.put (some (6+4)) (.int .i64 (r.src.length:Int))).put (some (6+5)) (.int .i64 k)).put (some (6+6)) (.bool (decide ((r.src.length:Int)<k)))).put (some (6+7)) (.bool (decide ((r.src.length:Int)<k)))):=
   (((HZ.put _ (by omega)).put _ (by omega)).put _ (by omega)).put _ (by omega)
  have Le:((((a2.put (some (6+4)) (.int .i64 (r.src.length:Int))).put (some (6+5)) (.int .i64 k)).put (some (6+6)) (.bool (decide ((r.src.length:Int)<k)))).put (some (6+7)) (.bool (decide ((r.src.length:Int)<k)))).get (6+7)=.bool (decide ((r.src.length:Int)<k)):=ao (by simp only[ab];omega)
  generalize((((a2.put (some (6+4)) (.int .i64 (r.src.length:Int))).put (some (6+5)) (.int .i64 k)).put (some (6+6)) (.bool (decide ((r.src.length:Int)<k)))).put (some (6+7)) (.bool (decide ((r.src.length:Int)<k))))=A at Ie Le ⊢
  have hsA:=Ie.size
  have MR:A.get 1=.int .i64 k:=by rw[Ie.get 1 (by omega) (.inr ⟨by omega,by omega⟩),JV 1 (by omega)];exact Ig
  have hy:∀ (B:Act),B.tmps.size=A.tmps.size->B.get (6+7)=.bool (decide ((r.src.length:Int)<k))->yielded (gW K 0 6++[bi (some (6+4)) .len [tm (6+3)] [K.tSl] K.tInt,mk (some (6+5)) (.move (tm 1)),mk (some (6+6)) (.binOp .lss K.tInt (tm (6+4)) (tm (6+5)) 0),mk (some (6+7)) (.move (tm (6+6))),
    gd (6+8) (.move (tm 1)) 7 false,gd (6+9) (.binOp .lss K.tInt (tm (6+8)) (ki .i64 0) 0) 7 false,mk (some (6+10)) (.pick (tm (6+7)) (.const (.bool true)) (tm (6+9)))]).toArray B.tmps 7=some (decide ((r.src.length:Int)<k)):=fun B hB hg=>
   dt (d:=6+7) (o:=mk (some (6+7)) (.move (tm (6+6)))) rfl rfl (by omega) hg
  by_cases Id:(r.src.length:Int)<k
  ·have hdt:decide ((r.src.length:Int)<k)=true:=by simp[Id]
   rw[hdt]at Le hy hb
   refine jQ (c:=true) (hy A rfl Le) (by simp) ?_
   refine jQ (c:=true) (hy _ (ab _ _ _) (by rw[al (by omega)];exact Le)) (by simp) ?_
   refine iQ (b:=true) (by rw[aa,al (by omega),al (by omega)];exact Le) (wpList_nil (hK _ ?_ (((Ie.put undef (d:=6+8) (by omega)).put undef (d:=6+9) (by omega)).put _ (by omega))))
   rw[aa,ao (by simp only[ab];omega),hb]
   rfl
  ·have I4:decide ((r.src.length:Int)<k)=false:=by simp[Id]
   rw[I4]at Le hy hb
   refine ju (v:=.int .i64 k) (hy A rfl Le) (by simp only[execOp,mk,aa,MR];rfl) ?_
   refine ju (v:=.bool (decide (k<0))) (hy _ (ab _ _ _) (by rw[al (by omega)];exact Le)) ?_ ?_
   ·have NQ:(A.put (some (6+8)) (.int .i64 k)).eval (tm (6+8))=.int .i64 k:=by rw[aa];exact ao (by omega)
    have Kr:(A.put (some (6+8)) (.int .i64 k)).eval (ki .i64 0)=.int .i64 0:=rfl
    have hg:(eqGuard .lss K.tInt (tm (6+8)) (ki .i64 0) (.int .i64 k) (.int .i64 0)).run P w=.ok () w:=by simp[eqGuard]
    have hr:=ik (P:=P) (w:=w) (T:=K.tInt) (k:=.i64) (p:=k) (q:=0) (op:=.lss) (b:=decide (k<0)) (.inr (.inr (.inl ⟨rfl,rfl⟩)))
    simp only[execOp,mk,NQ,Kr,Sem.run_bind,hg,Result.andThen_ok,hr,Sem.run_pure]
   ·refine iQ (b:=false) (by rw[aa,al (by omega),al (by omega)];exact Le) (wpList_nil (hK _ ?_ (((Ie.put _ (d:=6+8) (by omega)).put _ (d:=6+9) (by omega)).put _ (by omega))))
    rw[aa,ao (by simp only[ab];omega),hb]
    simp only[Bool.false_eq_true,if_false,Bool.false_or]
    rw[aa,ao (by simp only[ab];omega)]
 refine ad ?_
 rw[aO]
 by_cases IA:(r.src.length:Int)<k \/ k<0
 ·have J4:bt k r=(.nul,.fail):=by simp only[bt,IA,if_true]
  rw[J4]
  refine cL (Ip true _ _ (by rcases IA with h|h<;>simp[h]) fun a2 he HZ=>⟨he,?_⟩)
  have Iw:=HZ.size
  refine rl kt (by rw[HZ.get 0 (by omega) (.inr ⟨by omega,by omega⟩),JV 0 (by omega)];exact Jp) hv hRS (by omega) (by omega) fun a3 w3 J9 I2 IT Il=>⟨by rw[J9,HZ.defers,HX.defers];exact Kh,.slice none 0 0,?_,IT,Il,.inl ⟨rfl,rfl,rfl⟩⟩
  simp only[bj];rw[I2]
 ·have Jo:0<=k:=by omega
  obtain⟨kn,rfl⟩:∃ kn:Nat,k=(kn:Int):=⟨k.toNat,by omega⟩
  have Ma:kn<=r.src.length:=by omega
  have J4:bt (kn:Int) r=(if r.nl then .nul else .s (r.src.take kn),⟨r.src.drop kn,r.bad,r.nl⟩):=by simp only[bt,IA,if_false,Int.toNat_natCast]
  rw[J4]
  refine cD (Ip false _ _ (by simp at IA ⊢;omega) fun a2 he HZ=>⟨he,.skip ?_⟩)
  have Iw:=HZ.size
  have QY:a2.get 0=pt R 0:=by rw[HZ.get 0 (by omega) (.inr ⟨by omega,by omega⟩),JV 0 (by omega)];exact Jp
  have Li:a2.get 1=.int .i64 kn:=by rw[HZ.get 1 (by omega) (.inr ⟨by omega,by omega⟩),JV 1 (by omega)];exact Ig
  show LW P [ay 7 fun n=>gW K 0 n++[mk (some (n+4)) (.move (tm 1)),mk (some (n+5)) (.move (tm 1)),mk (some (n+6)) (.slice K.tSl (tm (n+3)) none (some (tm (n+4))) (some (tm (n+5)))),mk (some 5) (.assign (tm (n+6)))],mw K 1,b6 5 4,aS .ret] 23 _ a2 w
  refine ad (aq (iP kt QY hv (by omega) fun a3 Ie I2=>?_))
  have IJ:=Ie.size
  have JH:a3.get 1=.int .i64 kn:=(Ie.get 1 (by omega) (.inr ⟨by omega,by omega⟩)).trans Li
  have NW:a3.get 0=pt R 0:=(Ie.get 0 (by omega) (.inr ⟨by omega,by omega⟩)).trans QY
  refine ah ?_
  rw[aa,JH]
  refine ah ?_
  rw[aa,al (by omega),JH]
  refine rM kt (k:=kn) (by rw[aa,al (by omega),al (by omega)];exact I2) hv.2 (by rw[aa,al (by omega),ao (by omega)]) (by rw[aa,ao (by simp only[ab];omega)]) Ma ?_
  refine ak (wpList_nil ?_)
  rw[aa,ao (by simp only[ab];omega)]
  have Ix:Pv 5 0 0 23 a3 ((((a3.put (some (23+4)) (.int .i64 kn)).put (some (23+5)) (.int .i64 kn)).put (some (23+6)) (iN v kn)).put (some 5) (iN v kn)):=((((Pv.refl _ _ _ _ _).put _ (by omega)).put _ (by omega)).put _ (by omega)).put _ (by omega)
  have Kg:((((a3.put (some (23+4)) (.int .i64 kn)).put (some (23+5)) (.int .i64 kn)).put (some (23+6)) (iN v kn)).put (some 5) (iN v kn)).get 5=iN v kn:=ao (by simp only[ab];omega)
  generalize((((a3.put (some (23+4)) (.int .i64 kn)).put (some (23+5)) (.int .i64 kn)).put (some (23+6)) (iN v kn)).put (some 5) (iN v kn))=a4 at Ix Kg ⊢
  have Kb:=Ix.size
  refine ad (y8 kt (k:=kn) ((Ix.get 0 (by omega) (.inr ⟨by omega,by omega⟩)).trans NW) ((Ix.get 1 (by omega) (.inr ⟨by omega,by omega⟩)).trans JH) hv Ma hRS (by simp only[ay];omega) (by simp only[ay];omega) (by simp only[ay];omega) fun a5 Js N4=>?_)
  simp only[ay]at Js
  have N2:=Js.size
  refine ad (e7 (x:=4) (m:=0) (k0:=0) (.inl rfl) (Nat.le_refl _) (by omega) (by simp only[mw,ay];omega) (by omega) fun a6 hp6 Qk=>ad (.ret ⟨?_,iN v kn,?_,N4,ac.setRow (fun k=>k=R) _ _ _ rfl,(hv.2.cap Ma).keep (ac.setRow (fun k=>k=R) _ _ _ rfl) hRS⟩))
  ·rw[hp6.defers,Js.defers,Ix.defers,Ie.defers,HZ.defers,HX.defers];exact Kh
  ·simp only[bj]
   rw[Qk,Js.get 5 (by omega) (.inr ⟨by omega,by omega⟩),Kg]
end
theorem zn {b:Nat}(_h:b<256):b &&& 127=b%128:=by
 have:=Nat.and_two_pow_sub_one_eq_mod b 7
 simpa using this
theorem E6 {b:Nat}(h:b<256):b &&& 128=if b<128 then 0 else 128:=by
 have key:∀ x:Fin 256,x.val &&& 128=if x.val<128 then 0 else 128:=by decide +kernel
 exact key ⟨b,h⟩
section
variable {P:Program} {g:G} {K:Kn} {T S:Nat} {r:RS} {n:Nat} {KK:Act->World->Prop} {Q:Exit->Act->World->Prop} {a:Act} {w:World} {v:Value}
theorem pS {A b m:Nat}(h:b<256)(hm:m<256)(w:World):(binOp .and A (.int .u8 (b:Int)) (.int .u8 (m:Int))).run P w=.ok (.int .u8 ((b &&& m:Nat):Int)) w:=by
 have e1:BitVec.ofInt IntKind.u8.bits (b:Int)=BitVec.ofNat IntKind.u8.bits b:=BitVec.ofInt_natCast ..
 have e2:BitVec.ofInt IntKind.u8.bits (m:Int)=BitVec.ofNat IntKind.u8.bits m:=BitVec.ofInt_natCast ..
 have Id:b &&& m<256:=Nat.lt_of_le_of_lt Nat.and_le_left h
 have e3:(BitVec.ofNat IntKind.u8.bits b &&& BitVec.ofNat IntKind.u8.bits m).toNat=b &&& m:=by
  rw[BitVec.toNat_and,BitVec.toNat_ofNat,BitVec.toNat_ofNat,Nat.mod_eq_of_lt (show b<2^IntKind.u8.bits from h),Nat.mod_eq_of_lt (show m<2^IntKind.u8.bits from hm)]
 have e4:IntKind.u8.wrap ((b &&& m:Nat):Int)=((b &&& m:Nat):Int):=by
  simp only[IntKind.wrap,IntKind.bits,IntKind.signed]
  simp
  omega
 have J0:(IntKind.u8≠IntKind.u8)=False:=by simp
 simp only[binOp,J0,if_false,Op.intBits,e1,e2,e3,e4,Sem.run_pure]
theorem kG (kt:KT P g K){ops:Array Oper}{l:List Oper}{i:Nat}{b:UInt8}(h0:a.get 0=v)(hv:bD w S v r)(hi:r.src[i]?=some b)(hn:n+3<=a.tmps.size)(h:∀ a',Pv n 0 0 n a a'->a'.get (n+2)=.int .u8 (b.toNat:Int)->wpList P ops Q l a' w):wpList P ops Q (oy K i n++l) a w:=by
 have NF:i<r.src.length:=(List.getElem?_eq_some_iff.1 hi).1
 obtain⟨o,c,LH,Jw⟩:=nu hv (by omega)
 show wpList P ops Q (mk (some n) (.move (tm 0))::mk (some (n+1)) (.indexAddr K.tSl (tm n) (ki .i64 i))::mk (some (n+2)) (.load K.tU8 (tm (n+1)))::l) a w
 refine ah ?_
 rw[aa,h0,LH]
 refine bS (i:=i) (k:=.i64) (sz:=1) (by rw[aa,ao (by omega)]) rfl NF kt.sl (kt.u8.size _) ?_
 refine bg (v:=.int .u8 (b.toNat:Int)) (by rw[aa,ao (by simp only[ab];omega)]) (kt.u8.agg _) (by rw[Nat.mul_one];exact Jw i b hi) ?_
 exact h _ ((((Pv.refl _ _ _ _ _).put _ (by omega)).put _ (by omega)).put _ (by omega)) (ao (by simp only[ab];omega))
theorem ua (kt:KT P g K){k:Nat}(h0:a.get 0=v)(hv:bD w S v r)(hn:n+3<=a.tmps.size)(NI:r.src.length<k->∀ a',Pv n 0 0 n a a'->Q (.goto 0) a' w)(Io:k<=r.src.length->∀ a',Pv n 0 0 n a a'->Q .normal a' w):aK P (py K k n).1 Q a w:=by
 obtain⟨base,c,LH,_⟩:=hv.len
 have key:∀ (b:Bool) (K':Act->World->Prop),b=decide ((r.src.length:Int)<(k:Int))->(∀ a',a'.eval (tm (n+2))=.bool b->Pv n 0 0 n a a'->K' a' w) ->
   wpList P [mk (some n) (.move (tm 0)),bi (some (n+1)) .len [tm n] [K.tSl] K.tInt,mk (some (n+2)) (.binOp .lss K.tInt (tm (n+1)) (ki .i64 k) 0)].toArray (Exit.then K' Q) [mk (some n) (.move (tm 0)),bi (some (n+1)) .len [tm n] [K.tSl] K.tInt,mk (some (n+2)) (.binOp .lss K.tInt (tm (n+1)) (ki .i64 k) 0)] a w:=by
  intro b K' hb hK
  refine ah ?_
  rw[aa,h0,LH]
  refine dV (by rw[aa,ao (by omega)]) kt.sl ?_
  refine bk (b:=b) (p:=(r.src.length:Int)) (q:=k) (k:=.i64) (by rw[aa,ao (by simp only[ab];omega)]) rfl (.inr (.inr (.inl ⟨rfl,hb⟩))) (wpList_nil (hK _ (by rw[aa,ao (by simp only[ab];omega)]) ((((Pv.refl _ _ _ _ _).put _ (by omega)).put _ (by omega)).put _ (by omega))))
 by_cases Id:r.src.length<k
 ·exact cL (key true _ (by simp;omega) fun a' he hp=>⟨he,.goto (NI Id a' hp)⟩)
 ·exact cD (key false _ (by simp;omega) fun a' he hp=>⟨he,.skip (Io (by omega) a' hp)⟩)
theorem AL {i acc:Nat}(h4:a.get 4=.int .u32 acc)(hn:n+1<=a.tmps.size)(To:4<n)(h:∀ a',a'.defers=a.defers->a'.get 2=.int .u32 acc->a'.get 3=.int .i64 i->Q .ret a' w):aK P (zL i n).1 Q a w:=by
 refine aY (ad (aq (ah (ak (ak (wpList_nil (ad (.ret (h _ (by simp only[aj]) ?_ ?_)))))))))
 ·rw[al (by omega),ao (by simp only[ab];omega),aa,ao (by omega),aa,h4]
 ·rw[ao (by simp only[ab];omega)];rfl
theorem px (kt:KT P g K){i acc:Nat}{b:UInt8}(h0:a.get 0=v)(h4:a.get 4=.int .u32 acc)(hv:bD w S v r)(hi:r.src[i]?=some b)(hn:n+9<=a.tmps.size)(To:4<n)
  (PE:b.toNat<128->∀ a',a'.defers=a.defers->a'.get 2=.int .u32 acc->a'.get 3=.int .i64 ((i+1:Nat):Int)->Q .ret a' w) (NI:128<=b.toNat->r.src.length<i+2->∀ a',Pv n 0 0 n a a'->Q (.goto 0) a' w) (Io:128<=b.toNat->i+2<=r.src.length->∀ a',Pv n 0 0 n a a'->Q .normal a' w) :
  aK P (kX K i n).1 Q a w:=by
 have hb:=UInt8.toNat_lt b
 have key:∀ (c:Bool) (K':Act->World->Prop),c=decide (b.toNat<128)->(∀ a',a'.eval (tm (n+4))=.bool c->Pv n 0 0 n a a'->K' a' w) ->
   wpList P (oy K i n++[mk (some (n+3)) (.binOp .and K.tU8 (tm (n+2)) (ki .u8 128) 0),mk (some (n+4)) (.binOp .eql K.tU8 (tm (n+3)) (ki .u8 0) 0)]).toArray (Exit.then K' Q) (oy K i n++[mk (some (n+3)) (.binOp .and K.tU8 (tm (n+2)) (ki .u8 128) 0),mk (some (n+4)) (.binOp .eql K.tU8 (tm (n+3)) (ki .u8 0) 0)]) a w:=by
  intro c K' hc hK
  refine kG kt h0 hv hi (by omega) fun a1 HX Ig=>?_
  have If:=HX.size
  refine co (k:=.u8) (m:=(b.toNat:Int)) (n:=((128:Nat):Int)) (by rw[aa];exact Ig) rfl (by simp) (pS hb (by omega) w) ?_
  rw[E6 hb]
  refine bk (b:=c) (p:=((if b.toNat<128 then 0 else 128:Nat):Int)) (q:=0) (k:=.u8) (by rw[aa,ao (by omega)]) rfl (.inr (.inr (.inr (.inr (.inl ⟨rfl,?_⟩))))) (wpList_nil (hK _ (by rw[aa,ao (by simp only[ab];omega)]) ((HX.put _ (by omega)).put _ (by omega))))
  rw[hc]
  by_cases h:b.toNat<128<;>simp[h]
 by_cases Id:b.toNat<128
 ·refine cL (key true _ (by simp[Id]) fun a' he hp=>⟨he,?_⟩)
  exact AL ((hp.get 4 (by omega) (.inr ⟨by omega,by omega⟩)).trans h4) (by have:=hp.size;omega) (by omega) fun a2 hd Ij I2=>PE Id a2 (hd.trans hp.defers) Ij I2
 ·refine cD (key false _ (by simp[Id]) fun a' he hp=>⟨he,?_⟩)
  have hs:=hp.size
  rw[show(zL (i+1) (n+5)).2=n+6 from rfl]
  have R1:∀ a2,Pv (n+6) 0 0 (n+6) a' a2->Pv n 0 0 n a a2:=fun a2 h2=>hp.trans ⟨h2.size,h2.defers,fun s hs hh=>h2.get s (by omega) (.inr ⟨by omega,by omega⟩)⟩
  exact ua kt ((hp.get 0 (by omega) (.inr ⟨by omega,by omega⟩)).trans h0) hv (by omega) (fun h2 a2 HZ=>NI (by omega) h2 a2 (R1 a2 HZ)) (fun h2 a2 HZ=>Io (by omega) h2 a2 (R1 a2 HZ))
theorem zJ (kt:KT P g K){b:UInt8}(h0:a.get 0=v)(hv:bD w S v r)(hi:r.src[0]?=some b)(hn:n+5<=a.tmps.size)(To:5<n)(h:∀ a',Pv 4 0 0 n a a'->a'.get 4=.int .u32 ((b.toNat%128:Nat):Int)->KK a' w):aK P (rZ K n).1 (Exit.then KK Q) a w:=by
 have hb:=UInt8.toNat_lt b
 refine aq (kG kt h0 hv hi (by omega) fun a1 HX Ig=>?_)
 have If:=HX.size
 refine co (k:=.u8) (m:=(b.toNat:Int)) (n:=((127:Nat):Int)) (by rw[aa];exact Ig) rfl (by simp) (pS hb (by omega) w) ?_
 rw[zn hb]
 refine aL (k:=.u8) (k':=.u32) (by rw[aa,ao (by omega)]) kt.dU8 kt.dU32 ?_
 rw[fI (.inr (.inl rfl)) (by simp[IntKind.bits];omega)]
 refine ak (wpList_nil ?_)
 rw[aa,ao (by simp only[ab];omega)]
 have hp:Pv 4 0 0 n a a1:=⟨HX.size,HX.defers,fun s hs hh=>HX.get s (by omega) (.inr ⟨by omega,by omega⟩)⟩
 exact h _ (((hp.put _ (by omega)).put _ (by omega)).put _ (by omega)) (ao (by simp only[ab];omega))
theorem rY (kt:KT P g K){i s acc:Nat}{b:UInt8}(h0:a.get 0=v)(h4:a.get 4=.int .u32 acc)(K6:acc<2^s)(hs:s+8<=32)(hv:bD w S v r)(hi:r.src[i]?=some b)(hn:n+8<=a.tmps.size)(To:5<n)
  (h:∀ a',Pv 4 0 0 n a a'->a'.get 4=.int .u32 ((b.toNat%128*2^s+acc:Nat):Int)->KK a' w):aK P (ni K i s n).1 (Exit.then KK Q) a w:=by
 have hb:=UInt8.toNat_lt b
 have hm:b.toNat%128<256:=by omega
 refine aq (ah ?_)
 rw[aa,h4]
 refine kG kt (by rw[al (by omega)];exact h0) hv hi (by simp only[ab];omega) fun a1 HX Ig=>?_
 have If:=HX.size
 rw[ab]at If
 have Oh:a1.get n=.int .u32 acc:=by rw[HX.get n (by omega) (.inr ⟨by omega,by omega⟩),ao (by omega)]
 have hp:Pv 4 0 0 n a a1:=((Pv.refl 4 0 0 n a).put (.int .u32 acc) (by omega)).trans ⟨HX.size,HX.defers,fun s hs hh=>HX.get s (by omega) (.inr ⟨by omega,by omega⟩)⟩
 refine co (k:=.u8) (m:=(b.toNat:Int)) (n:=((127:Nat):Int)) (by rw[aa];exact Ig) rfl (by simp) (pS hb (by omega) w) ?_
 rw[zn hb]
 refine aL (k:=.u8) (k':=.u32) (by rw[aa,ao (by omega)]) kt.dU8 kt.dU32 ?_
 rw[fI (.inr (.inl rfl)) (by simp[IntKind.bits];omega)]
 refine aB (v:=.int .u32 ((b.toNat%128*2^s:Nat):Int)) (w':=w) ?_ ?_
 ·have e1:∀ B:Act,B.eval (ki .u64 (s:Int))=.int .u64 (s:Int):=fun _=>rfl
  have e2:(((a1.put (some (n+4)) (.int .u8 ((b.toNat%128:Nat):Int))).put (some (n+5)) (.int .u32 ((b.toNat%128:Nat):Int)))).eval (tm (n+5))=.int .u32 ((b.toNat%128:Nat):Int):=by rw[aa,ao (by simp only[ab];omega)]
  have hr:=ut (P:=P) (A:=K.tU32) (.inr (.inl rfl)) hm (show s+8<=IntKind.u32.bits by simpa[IntKind.bits]using hs) w
  have hg:(eqGuard .shl K.tU32 (tm (n+5)) (ki .u64 (s:Int)) (.int .u32 ((b.toNat%128:Nat):Int)) (.int .u64 (s:Int))).run P w=.ok () w:=by simp[eqGuard]
  simp only[execOp,mk,e1,e2,Sem.run_bind,hg,Result.andThen_ok,hr,Sem.run_pure]
 refine co (k:=.u32) (m:=(acc:Int)) (n:=((b.toNat%128*2^s:Nat):Int)) (by rw[aa,al (by omega),al (by omega),al (by omega)];exact Oh) (by rw[aa,ao (by simp only[ab];omega)]) (by simp)
  (xI (.inr (.inl rfl)) K6 hm (by simpa[IntKind.bits]using hs) w) ?_
 refine ak (wpList_nil ?_)
 rw[aa,ao (by simp only[ab];omega)]
 exact h _ (((((hp.put _ (by omega)).put _ (by omega)).put _ (by omega)).put _ (by omega)).put _ (by omega)) (ao (by simp only[ab];omega))
end
section
variable {P:Program} {g:G} {K:Kn} {T S R:Nat} {r:RS} {n:Nat} {KK:Act->World->Prop} {Q:Exit->Act->World->Prop} {a:Act} {w:World} {v:Value}
theorem vo {A b:Nat}(w:World):(binOp .shl A (.int .u32 (b:Int)) (.int .u64 28)).run P w=.ok (.int .u32 ((b%16*2^28:Nat):Int)) w:=by
 have h5:IntKind.u32.wrap ((b:Int)*2^28)=((b%16*2^28:Nat):Int):=by
  simp[IntKind.wrap,IntKind.bits,IntKind.signed]
  omega
 have h1:¬ ((28:Int)<0):=by omega
 have h2:min (28:Int).toNat IntKind.u32.bits=28:=by simp[IntKind.bits]
 simp only[binOp,Op.shift,h1,if_false,h2,h5,Sem.run_pure]
theorem xH {A acc b:Nat}(ha:acc<2^28)(hb:b<16)(w:World):(binOp .or A (.int .u32 (acc:Int)) (.int .u32 ((b*2^28:Nat):Int))).run P w=.ok (.int .u32 ((b*2^28+acc:Nat):Int)) w:=by
 have h3:b*2^28+acc<2^IntKind.u32.bits:=by simp only[IntKind.bits];omega
 have e1:BitVec.ofInt IntKind.u32.bits (acc:Int)=BitVec.ofNat IntKind.u32.bits acc:=BitVec.ofInt_natCast ..
 have e2:BitVec.ofInt IntKind.u32.bits ((b*2^28:Nat):Int)=BitVec.ofNat IntKind.u32.bits (b*2^28):=BitVec.ofInt_natCast ..
 have e3:acc ||| b*2^28=b*2^28+acc:=by
  rw[Nat.or_comm,Nat.mul_comm,<- Nat.two_pow_add_eq_or_of_lt ha]
 have e4:(BitVec.ofNat IntKind.u32.bits acc ||| BitVec.ofNat IntKind.u32.bits (b*2^28)).toNat=b*2^28+acc:=by
  rw[BitVec.toNat_or,BitVec.toNat_ofNat,BitVec.toNat_ofNat,Nat.mod_eq_of_lt (Nat.lt_of_le_of_lt (Nat.le_add_left _ _) h3),Nat.mod_eq_of_lt (Nat.lt_of_le_of_lt (Nat.le_add_right _ _) h3),e3]
 have J0:(IntKind.u32≠IntKind.u32)=False:=by simp
 simp only[binOp,J0,if_false,Op.intBits,e1,e2,e4,fI (.inr (.inl rfl)) h3,Sem.run_pure]
theorem B5 (kt:KT P g K){acc:Nat}{b:UInt8}(h0:a.get 0=v)(h4:a.get 4=.int .u32 acc)(K6:acc<2^28)(hv:bD w S v r)(hi:r.src[4]?=some b)(hn:n+7<=a.tmps.size)(To:5<n)
  (h:∀ a',Pv 4 0 0 n a a'->a'.get 4=.int .u32 ((b.toNat%16*2^28+acc:Nat):Int)->KK a' w):aK P (xi K n).1 (Exit.then KK Q) a w:=by
 have hb:=UInt8.toNat_lt b
 refine aq (ah ?_)
 rw[aa,h4]
 refine kG kt (by rw[al (by omega)];exact h0) hv hi (by simp only[ab];omega) fun a1 HX Ig=>?_
 have If:=HX.size
 rw[ab]at If
 have Oh:a1.get n=.int .u32 acc:=by rw[HX.get n (by omega) (.inr ⟨by omega,by omega⟩),ao (by omega)]
 have hp:Pv 4 0 0 n a a1:=((Pv.refl 4 0 0 n a).put (.int .u32 acc) (by omega)).trans ⟨HX.size,HX.defers,fun s hs hh=>HX.get s (by omega) (.inr ⟨by omega,by omega⟩)⟩
 refine aL (k:=.u8) (k':=.u32) (by rw[aa];exact Ig) kt.dU8 kt.dU32 ?_
 rw[fI (.inr (.inl rfl)) (by simp[IntKind.bits];omega)]
 refine aB (v:=.int .u32 ((b.toNat%16*2^28:Nat):Int)) (w':=w) ?_ ?_
 ·have e1:∀ B:Act,B.eval (ki .u64 28)=.int .u64 28:=fun _=>rfl
  have e2:(a1.put (some (n+4)) (.int .u32 (b.toNat:Int))).eval (tm (n+4))=.int .u32 (b.toNat:Int):=by rw[aa,ao (by omega)]
  have hr:=vo (P:=P) (A:=K.tU32) (b:=b.toNat) w
  have hg:(eqGuard .shl K.tU32 (tm (n+4)) (ki .u64 28) (.int .u32 (b.toNat:Int)) (.int .u64 28)).run P w=.ok () w:=by simp[eqGuard]
  simp only[execOp,mk,e1,e2,Sem.run_bind,hg,Result.andThen_ok,hr,Sem.run_pure]
 refine co (k:=.u32) (m:=(acc:Int)) (n:=((b.toNat%16*2^28:Nat):Int)) (by rw[aa,al (by omega),al (by omega)];exact Oh) (by rw[aa,ao (by simp only[ab];omega)]) (by simp)
  (xH K6 (by omega) w) ?_
 refine ak (wpList_nil ?_)
 rw[aa,ao (by simp only[ab];omega)]
 exact h _ ((((hp.put _ (by omega)).put _ (by omega)).put _ (by omega)).put _ (by omega)) (ao (by simp only[ab];omega))
theorem EL (kt:KT P g K){acc:Nat}{b:UInt8}(h0:a.get 0=v)(h4:a.get 4=.int .u32 acc)(hv:bD w S v r)(hi:r.src[4]?=some b)(hn:n+6<=a.tmps.size)(To:4<n)
  (PE:b.toNat<=15->∀ a',a'.defers=a.defers->a'.get 2=.int .u32 acc->a'.get 3=.int .i64 5->Q .ret a' w) (Io:¬ b.toNat<=15->∀ a',Pv n 0 0 n a a'->Q .normal a' w):aK P (B6 K n).1 Q a w:=by
 have key:∀ (c:Bool) (K':Act->World->Prop),c=decide ((b.toNat:Int)<=15)->(∀ a',a'.eval (tm (n+3))=.bool c->Pv n 0 0 n a a'->K' a' w) ->
   wpList P (oy K 4 n++[mk (some (n+3)) (.binOp .leq K.tU8 (tm (n+2)) (ki .u8 15) 0)]).toArray (Exit.then K' Q) (oy K 4 n++[mk (some (n+3)) (.binOp .leq K.tU8 (tm (n+2)) (ki .u8 15) 0)]) a w:=by
  intro c K' hc hK
  refine kG kt h0 hv hi (by omega) fun a1 HX Ig=>?_
  have If:=HX.size
  refine bk (b:=c) (p:=(b.toNat:Int)) (q:=15) (k:=.u8) (by rw[aa];exact Ig) rfl (.inr (.inl ⟨rfl,hc⟩)) (wpList_nil (hK _ (by rw[aa,ao (by omega)]) (HX.put _ (by omega))))
 by_cases Id:b.toNat<=15
 ·refine cL (key true _ (by simp;omega) fun a' he hp=>⟨he,?_⟩)
  exact AL ((hp.get 4 (by omega) (.inr ⟨by omega,by omega⟩)).trans h4) (by have:=hp.size;omega) (by omega) fun a2 hd Ij I2=>PE Id a2 (hd.trans hp.defers) Ij I2
 ·exact cD (key false _ (by simp;omega) fun a' he hp=>⟨he,.skip (Io Id a' hp)⟩)
def Bq (src:Bs)(a:Act):Prop:=a.defers=[]/\a.get 2=.int .u32 ((b8 src).1:Int)/\a.get 3=.int .i64 (b8 src).2
structure US (v:Value)(ntmps acc:Nat)(a:Act):Prop where
 g0:a.get 0=v
 g4:a.get 4=.int .u32 acc
 g5:a.get 5=.int .i64 0
 size:a.tmps.size=ntmps
 defers:a.defers=[]
theorem US.pv {v:Value}{ntmps acc:Nat}{a a':Act}{n:Nat}(h:US v ntmps acc a)(hp:Pv n 0 0 n a a')(hn:5<n):US v ntmps acc a':=
 ⟨(hp.get 0 (by omega) (.inr ⟨by omega,by omega⟩)).trans h.g0,(hp.get 4 (by omega) (.inr ⟨by omega,by omega⟩)).trans h.g4,(hp.get 5 (by omega) (.inr ⟨by omega,by omega⟩)).trans h.g5,hp.size.trans h.size,hp.defers.trans h.defers⟩
theorem US.next {v:Value}{ntmps acc acc':Nat}{a a':Act}{n:Nat}(h:US v ntmps acc a)(hp:Pv 4 0 0 n a a')(hn:5<n)(h4:a'.get 4=.int .u32 acc'):US v ntmps acc' a':=
 ⟨(hp.get 0 (by omega) (.inr ⟨by omega,by omega⟩)).trans h.g0,h4,(hp.get 5 (by omega) (.inr ⟨by omega,by omega⟩)).trans h.g5,hp.size.trans h.size,hp.defers.trans h.defers⟩
def AM:List GC:=[ay 1 fun n=>[mk (some n) (.move (tm 5)),mk (some 2) (.assign (ki .u32 0)),mk (some 3) (.assign (tm n))],aS .ret]
theorem xh {x:Int}{J:Act->World->Prop}{E:Act->World->Prop}(h5:a.get 5=.int .i64 x)(hn:n+1<=a.tmps.size)(h5n:5<n)(h:∀ a',a'.defers=a.defers->a'.get 2=.int .u32 0->a'.get 3=.int .i64 x->E a' w) :
  LW P AM n (Exit.jump 0 J (Rt (fun _ _=>False) E)) a w:=by
 refine ad (aq (ah (ak (ak (wpList_nil (ad (.ret (h _ (by simp only[aj]) ?_ ?_))))))))
 ·rw[al (by omega),ao (by simp only[ab];omega)];rfl
 ·rw[ao (by simp only[ab];omega),aa,al (by omega),ao (by omega),aa,h5]
theorem uW (K:Kn):findLabel (sq (gL (B7 K) 6).1) 0=some (.seq .skip (sq (gL AM 86).1)):=rfl
theorem rW (kt:KT P g K){f ntmps:Nat}(hfn:FnIs P f ntmps [2,3] (cUvIn K))(Iv:87<=ntmps)(hv:bD w S v r):Calls P f #[v] w fun e w'=>e=.returned (.tuple #[.int .u32 ((b8 r.src).1:Int),.int .i64 (b8 r.src).2])/\w'=w:=by
 refine hfn.calls kt.mixed (by simp) ?_
 refine lk (K:=fun _ _=>False) (E:=fun a' w'=>Bq r.src a'/\w'=w) ?_ (fun _ _ h=>h.elim) (fun a' w' h=>⟨h.1.1,by simp only[bj];rw[show([2,3]:List Nat).map a'.get=[a'.get 2,a'.get 3] from rfl,h.1.2.1,h.1.2.2],h.2⟩)
 have Ii:=ck #[v] ntmps (by show 1<=ntmps;omega)
 have Jp:({ tmps:=#[v]++Array.replicate (ntmps-(#[v]:Array Value).size) undef,defers:=[] }:Act).get 0=v:=by rw[b9 _ _ _ (by simp)];rfl
 have Kh:({ tmps:=#[v]++Array.replicate (ntmps-(#[v]:Array Value).size) undef,defers:=[] }:Act).defers=[]:=rfl
 have hsz':({ tmps:=#[v]++Array.replicate (ntmps-(#[v]:Array Value).size) undef,defers:=[] }:Act).tmps.size=ntmps:=Ii
 generalize({ tmps:=#[v]++Array.replicate (ntmps-(#[v]:Array Value).size) undef,defers:=[] }:Act)=a at Jp Kh hsz' ⊢
 refine .seq (R:=Rt (fun a' w'=>a'.get 0=v/\a'.tmps.size=ntmps/\a'.defers=[]/\w'=w) (fun _ _=>False)) (.reg (ak (ak (wpList_nil ⟨?_,?_,?_,rfl⟩)))) (fun a1 w1 hh=>?_) (fun e a w he hq=>by cases e<;>first|exact absurd rfl he|exact hq.elim)
 ·rw[al (by omega),al (by omega)];exact Jp
 ·simp only[ab];exact hsz'
 ·simp only[aj];exact Kh
 obtain⟨Ig,If,Ks,rfl⟩:=hh
 refine .scope 0 (fun a' w'=>a'.get 5=.int .i64 0/\a'.tmps.size=ntmps/\a'.defers=[]/\b8 r.src=(0,0)/\w'=w1) (fun _ _=>0) (uW K) ?_ (fun a' w' hJ=>?_)
 ·show LW P (B7 K) 6 (Exit.jump 0 (fun a' w'=>a'.get 5=.int .i64 0/\a'.tmps.size=ntmps/\a'.defers=[]/\b8 r.src=(0,0)/\w'=w1) (Rt (fun _ _=>False) (fun a' w'=>Bq r.src a'/\w'=w1))) a1 w1
  refine ad (cV (x:=4) (m:=0) (k0:=0) (.inl rfl) (by omega) fun a2 HZ hg42=>?_)
  refine ad (cV (x:=5) (m:=0) (k0:=0) (.inl rfl) (by have:=HZ.size;omega) fun a3 Ie V9=>?_)
  have hU:US v ntmps 0 a3:=⟨(Ie.get 0 (by omega) (.inr ⟨by omega,by simp[aR,ay]⟩)).trans ((HZ.get 0 (by omega) (.inr ⟨by omega,by omega⟩)).trans Ig),(Ie.get 4 (by omega) (.inr ⟨by omega,by simp[aR,ay]⟩)).trans hg42,V9,Ie.size.trans (HZ.size.trans If),Ie.defers.trans (HZ.defers.trans Ks)⟩
  rw[show(aR 5 (.int .i64 0) (aR 4 (.int .u32 0) 6).2).2=6 from rfl]
  refine ad (ua (n:=6) kt hU.g0 hv (by have:=hU.size;omega) (fun Id a' hp=>⟨rfl,(hU.pv hp (by omega)).g5,(hU.pv hp (by omega)).size,(hU.pv hp (by omega)).defers,?_,rfl⟩) (fun Iq a4 Ix=>?_))
  ·have:r.src=[]:=by cases hh:r.src with|nil=>rfl|cons b t=>rw[hh]at Id;simp at Id
   rw[this];rfl
  have Wr:=hU.pv Ix (by omega)
  obtain⟨b0,t0,KF⟩:=ia Iq
  have Wg:=UInt8.toNat_lt b0
  rw[show(py K 1 6).2=9 from rfl]
  refine ad (zJ (n:=9) (b:=b0) kt Wr.g0 hv (by rw[KF];rfl) (by have:=Wr.size;omega) (by omega) fun a5 Js Kg=>?_)
  have Pt:=Wr.next Js (by omega) Kg
  rw[show(rZ K 9).2=14 from rfl]
  refine ad (px (n:=14) (i:=0) (b:=b0) kt Pt.g0 Pt.g4 hv (by rw[KF];rfl) (by have:=Pt.size;omega) (by omega) (fun Id a' hd' h2' h3'=>⟨⟨hd'.trans Pt.defers,?_,?_⟩,rfl⟩) (fun Jh Id a' hp=>⟨rfl,(Pt.pv hp (by omega)).g5,(Pt.pv hp (by omega)).size,(Pt.pv hp (by omega)).defers,?_,rfl⟩) (fun hge0 RU c0 NZ=>?_))
  ·rw[h2',KF];simp only[b8, Id,if_true];congr 2;omega
  ·rw[h3',KF];simp only[b8, Id,if_true];rfl
  ·have ht:t0=[]:=by cases hh:t0 with|nil=>rfl|cons b t=>rw[KF,hh]at Id;simp only[List.length_cons]at Id;omega
   rw[KF,ht];simp only[b8,show ¬ b0.toNat<128 by omega,if_false]
  obtain⟨b1,t1,NY⟩:=ia (show 1<=t0.length by rw[KF]at RU;simp at RU;omega)
  have If:r.src=b0::b1::t1:=by rw[KF,NY]
  have IX:=UInt8.toNat_lt b1
  have TW:=Pt.pv NZ (by omega)
  rw[show(kX K 0 14).2=23 from rfl]
  refine ad (rY (n:=23) (i:=1) (s:=7) (acc:=b0.toNat%128) (b:=b1) kt TW.g0 TW.g4 (by omega) (by omega) hv (by rw[If];rfl) (by have:=TW.size;omega) (by omega) fun d0 T7 hg10=>?_)
  have Oo:=TW.next T7 (by omega) hg10
  rw[show(ni K 1 7 23).2=31 from rfl]
  refine ad (px (n:=31) (i:=1) (b:=b1) kt Oo.g0 Oo.g4 hv (by rw[If];rfl) (by have:=Oo.size;omega) (by omega) (fun Id a' hd' h2' h3'=>⟨⟨hd'.trans Oo.defers,?_,?_⟩,rfl⟩) (fun Jh Id a' hp=>⟨rfl,(Oo.pv hp (by omega)).g5,(Oo.pv hp (by omega)).size,(Oo.pv hp (by omega)).defers,?_,rfl⟩) (fun hge1 RQ c1 JV=>?_))
  ·rw[h2',If];simp only[b8,show ¬ b0.toNat<128 by omega,Id,if_true,if_false];congr 2;omega
  ·rw[h3',If];simp only[b8,show ¬ b0.toNat<128 by omega,Id,if_true,if_false];rfl
  ·have ht:t1=[]:=by cases hh:t1 with|nil=>rfl|cons b t=>rw[If,hh]at Id;simp only[List.length_cons]at Id;omega
   rw[If,ht];simp only[b8,show ¬ b0.toNat<128 by omega,show ¬ b1.toNat<128 by omega,if_false]
  obtain⟨b2,t2,T3⟩:=ia (show 1<=t1.length by rw[If]at RQ;simp at RQ;omega)
  have Iw:r.src=b0::b1::b2::t2:=by rw[If,T3]
  have IK:=UInt8.toNat_lt b2
  have TV:=Oo.pv JV (by omega)
  rw[show(kX K 1 31).2=40 from rfl]
  refine ad (rY (n:=40) (i:=2) (s:=14) (acc:=(b1.toNat%128*2^7+b0.toNat%128)) (b:=b2) kt TV.g0 TV.g4 (by omega) (by omega) hv (by rw[Iw];rfl) (by have:=TV.size;omega) (by omega) fun d1 UP NK=>?_)
  have Ps:=TV.next UP (by omega) NK
  rw[show(ni K 2 14 40).2=48 from rfl]
  refine ad (px (n:=48) (i:=2) (b:=b2) kt Ps.g0 Ps.g4 hv (by rw[Iw];rfl) (by have:=Ps.size;omega) (by omega) (fun Id a' hd' h2' h3'=>⟨⟨hd'.trans Ps.defers,?_,?_⟩,rfl⟩) (fun Jh Id a' hp=>⟨rfl,(Ps.pv hp (by omega)).g5,(Ps.pv hp (by omega)).size,(Ps.pv hp (by omega)).defers,?_,rfl⟩) (fun hge2 PX c2 Lk=>?_))
  ·rw[h2',Iw];simp only[b8,show ¬ b0.toNat<128 by omega,show ¬ b1.toNat<128 by omega,Id,if_true,if_false];congr 2;omega
  ·rw[h3',Iw];simp only[b8,show ¬ b0.toNat<128 by omega,show ¬ b1.toNat<128 by omega,Id,if_true,if_false];rfl
  ·have ht:t2=[]:=by cases hh:t2 with|nil=>rfl|cons b t=>rw[Iw,hh]at Id;simp only[List.length_cons]at Id;omega
   rw[Iw,ht];simp only[b8,show ¬ b0.toNat<128 by omega,show ¬ b1.toNat<128 by omega,show ¬ b2.toNat<128 by omega,if_false]
  obtain⟨b3,t3,T0⟩:=ia (show 1<=t2.length by rw[Iw]at PX;simp at PX;omega)
  have IJ:r.src=b0::b1::b2::b3::t3:=by rw[Iw,T0]
  have LL:=UInt8.toNat_lt b3
  have TU:=Ps.pv Lk (by omega)
  rw[show(kX K 2 48).2=57 from rfl]
  refine ad (rY (n:=57) (i:=3) (s:=21) (acc:=(b2.toNat%128*2^14+(b1.toNat%128*2^7+b0.toNat%128))) (b:=b3) kt TU.g0 TU.g4 (by omega) (by omega) hv (by rw[IJ];rfl) (by have:=TU.size;omega) (by omega) fun d2 Rx hg12=>?_)
  have Pr:=TU.next Rx (by omega) hg12
  rw[show(ni K 3 21 57).2=65 from rfl]
  refine ad (px (n:=65) (i:=3) (b:=b3) kt Pr.g0 Pr.g4 hv (by rw[IJ];rfl) (by have:=Pr.size;omega) (by omega) (fun Id a' hd' h2' h3'=>⟨⟨hd'.trans Pr.defers,?_,?_⟩,rfl⟩) (fun Jh Id a' hp=>⟨rfl,(Pr.pv hp (by omega)).g5,(Pr.pv hp (by omega)).size,(Pr.pv hp (by omega)).defers,?_,rfl⟩) (fun Ss RP c3 MN=>?_))
  ·rw[h2',IJ];simp only[b8,show ¬ b0.toNat<128 by omega,show ¬ b1.toNat<128 by omega,show ¬ b2.toNat<128 by omega,Id,if_true,if_false];congr 2;omega
  ·rw[h3',IJ];simp only[b8,show ¬ b0.toNat<128 by omega,show ¬ b1.toNat<128 by omega,show ¬ b2.toNat<128 by omega,Id,if_true,if_false];rfl
  ·have ht:t3=[]:=by cases hh:t3 with|nil=>rfl|cons b t=>rw[IJ,hh]at Id;simp only[List.length_cons]at Id;omega
   rw[IJ,ht];simp only[b8,show ¬ b0.toNat<128 by omega,show ¬ b1.toNat<128 by omega,show ¬ b2.toNat<128 by omega,show ¬ b3.toNat<128 by omega,if_false]
  obtain⟨b4,t4,OX⟩:=ia (show 1<=t3.length by rw[IJ]at RP;simp at RP;omega)
  have Kb:r.src=b0::b1::b2::b3::b4::t4:=by rw[IJ,OX]
  have QT:=UInt8.toNat_lt b4
  have QV:=Pr.pv MN (by omega)
  rw[show(kX K 3 65).2=74 from rfl]
  refine ad (B5 (n:=74) (acc:=(b3.toNat%128*2^21+(b2.toNat%128*2^14+(b1.toNat%128*2^7+b0.toNat%128)))) (b:=b4) kt QV.g0 QV.g4 (by omega) hv (by rw[Kb];rfl) (by have:=QV.size;omega) (by omega) fun d3 UO Le=>?_)
  have M2:=QV.next UO (by omega) Le
  rw[show(xi K 74).2=81 from rfl]
  refine ad (EL (n:=81) (b:=b4) kt M2.g0 M2.g4 hv (by rw[Kb];rfl) (by have:=M2.size;omega) (by omega) (fun Id a' hd' h2' h3'=>⟨⟨hd'.trans M2.defers,?_,?_⟩,rfl⟩) (fun Nn e1 hq4=>?_))
  ·rw[h2',Kb];simp only[b8,show ¬ b0.toNat<128 by omega,show ¬ b1.toNat<128 by omega,show ¬ b2.toNat<128 by omega,show ¬ b3.toNat<128 by omega,Id,if_true,if_false];congr 2;omega
  ·rw[h3',Kb];simp only[b8,show ¬ b0.toNat<128 by omega,show ¬ b1.toNat<128 by omega,show ¬ b2.toNat<128 by omega,show ¬ b3.toNat<128 by omega,Id,if_true,if_false]
  have Q5:=M2.pv hq4 (by omega)
  rw[show(B6 K 81).2=86 from rfl]
  refine ad (cV (x:=5) (m:=0) (k0:=0) (.inl rfl) (by have:=Q5.size;omega) fun e2 hr4 hg54=>ad (.label ?_))
  rw[show(aS (.label 0) (aR 5 (.int .i64 (-5)) 86).2).2=86 from rfl]
  refine xh (x:=-5) hg54 (by have:=hr4.size;have:=Q5.size;omega) (by omega) fun e3 J9 h23 h33=>⟨⟨J9.trans (hr4.defers.trans Q5.defers),?_,?_⟩,rfl⟩
  ·rw[h23,Kb];simp only[b8,show ¬ b0.toNat<128 by omega,show ¬ b1.toNat<128 by omega,show ¬ b2.toNat<128 by omega,show ¬ b3.toNat<128 by omega,Nn,if_false];rfl
  ·rw[h33,Kb];simp only[b8,show ¬ b0.toNat<128 by omega,show ¬ b1.toNat<128 by omega,show ¬ b2.toNat<128 by omega,show ¬ b3.toNat<128 by omega,Nn,if_false]
 ·obtain⟨h5,hs,hd,hu,rfl⟩:=hJ
  refine .seq (R:=Rt (fun a'' w''=>a''=a'/\w''=w') (fun _ _=>False)) (.skip ⟨rfl,rfl⟩) (fun a2 w2 hh=>?_) (fun e a w he hq=>by cases e<;>first|exact absurd rfl he|exact hq.elim)
  obtain⟨rfl,rfl⟩:=hh
  exact xh h5 (by omega) (by omega) fun a3 J9 h2 h3=>⟨⟨J9.trans hd,by rw[h2,hu];rfl,by rw[h3,hu]⟩,rfl⟩
end
theorem rV (l:Bs):(b8 l).2<=(l.length:Int):=by
 unfold b8
 split
 ·simp
 ·split
  ·simp only[List.length_cons];omega
  ·split
   ·simp
   ·split
    ·simp only[List.length_cons];omega
    ·split
     ·simp
     ·split
      ·simp only[List.length_cons];omega
      ·split
       ·simp
       ·split
        ·simp only[List.length_cons];omega
        ·split
         ·simp
         ·split
          ·simp only[List.length_cons];omega
          ·simp only[List.length_cons];omega
section
variable {P:Program} {g:G} {K:Kn} {T S R:Nat} {r:RS} {w:World}
theorem uv_calls (kt:KT P g K){f ntmps nIn:Nat}(XI:FnIs P K.fUv nIn [2,3] (cUvIn K))(Vh:87<=nIn)(hfn:FnIs P f ntmps [2] (cUv K))(Iv:31<=ntmps)(hR:cy w T S R r)(hRS:S≠R) :
  Calls P f #[pt R 0] w fun e w'=>e=.returned (.int .u32 (b5 r).1)/\cy w' T S R (b5 r).2/\ac (·=R) w w':=by
 refine gh kt.mixed hfn (by omega) fun a h0 hs hd=>?_
 obtain⟨v,hv⟩:=hR
 refine ad (cV (x:=2) (m:=0) (k0:=0) (.inl rfl) (by omega) fun a1 HX _=>?_)
 have If:=HX.size
 rw[show(aR 2 (.int .u32 0) 6).2=6 from rfl]
 refine ad (aq (iP kt (ee HX h0 (by omega) (by omega)) hv (by omega) fun a2 HZ Ij=>?_))
 have Iw:=HZ.size
 refine aN (vs:=#[v]) XI.ent (by simp[aa,Ij]) (rW kt XI Vh hv.2) fun e w' JD=>?_
 obtain⟨he,rfl⟩:=JD
 refine⟨_,he,?_⟩
 generalize hx:(b8 r.src).1=x
 generalize hy:(b8 r.src).2=y
 refine ah ?_
 rw[aa,ao (by omega)]
 refine aB (v:=.int .u32 (x:Int)) (w':=w') ?_ ?_
 ·have:((a2.put (some (6+4)) (.tuple #[.int .u32 (x:Int),.int .i64 y])).put (some 5) (.tuple #[.int .u32 (x:Int),.int .i64 y])).eval (tm 5)=.tuple #[.int .u32 (x:Int),.int .i64 y]:=by rw[aa,ao (by simp only[ab];omega)]
  simp[execOp,mk,this,Instr.extract]
 refine aB (v:=.int .i64 y) (w':=w') ?_ ?_
 ·have:(((a2.put (some (6+4)) (.tuple #[.int .u32 (x:Int),.int .i64 y])).put (some 5) (.tuple #[.int .u32 (x:Int),.int .i64 y])).put (some (6+5)) (.int .u32 (x:Int))).eval (tm 5)=.tuple #[.int .u32 (x:Int),.int .i64 y]:=by rw[aa,al (by omega),ao (by simp only[ab];omega)]
  simp[execOp,mk,this,Instr.extract]
 refine ak (ak (wpList_nil ?_))
 rw[aa,al (by omega),ao (by simp only[ab];omega),aa,al (by omega),ao (by simp only[ab];omega)]
 have e0:((((((a2.put (some (6+4)) (.tuple #[.int .u32 (x:Int),.int .i64 y])).put (some 5) (.tuple #[.int .u32 (x:Int),.int .i64 y])).put (some (6+5)) (.int .u32 (x:Int))).put (some (6+6)) (.int .i64 y)).put (some 3) (.int .u32 (x:Int))).put (some 4) (.int .i64 y)).get 0=pt R 0:=by
  rw[al (by omega),al (by omega),al (by omega),al (by omega),al (by omega),al (by omega)]
  exact ee HZ (ee HX h0 (by omega) (by omega)) (by omega) (by omega)
 have e3:((((((a2.put (some (6+4)) (.tuple #[.int .u32 (x:Int),.int .i64 y])).put (some 5) (.tuple #[.int .u32 (x:Int),.int .i64 y])).put (some (6+5)) (.int .u32 (x:Int))).put (some (6+6)) (.int .i64 y)).put (some 3) (.int .u32 (x:Int))).put (some 4) (.int .i64 y)).get 3=.int .u32 (x:Int):=by
  rw[al (by omega),ao (by simp only[ab];omega)]
 have e4:((((((a2.put (some (6+4)) (.tuple #[.int .u32 (x:Int),.int .i64 y])).put (some 5) (.tuple #[.int .u32 (x:Int),.int .i64 y])).put (some (6+5)) (.int .u32 (x:Int))).put (some (6+6)) (.int .i64 y)).put (some 3) (.int .u32 (x:Int))).put (some 4) (.int .i64 y)).get 4=.int .i64 y:=ao (by simp only[ab];omega)
 have es:((((((a2.put (some (6+4)) (.tuple #[.int .u32 (x:Int),.int .i64 y])).put (some 5) (.tuple #[.int .u32 (x:Int),.int .i64 y])).put (some (6+5)) (.int .u32 (x:Int))).put (some (6+6)) (.int .i64 y)).put (some 3) (.int .u32 (x:Int))).put (some 4) (.int .i64 y)).tmps.size=ntmps:=by simp only[ab];omega
 have ed:((((((a2.put (some (6+4)) (.tuple #[.int .u32 (x:Int),.int .i64 y])).put (some 5) (.tuple #[.int .u32 (x:Int),.int .i64 y])).put (some (6+5)) (.int .u32 (x:Int))).put (some (6+6)) (.int .i64 y)).put (some 3) (.int .u32 (x:Int))).put (some 4) (.int .i64 y)).defers=[]:=by
  simp only[aj];rw[HZ.defers,HX.defers];exact hd
 generalize((((((a2.put (some (6+4)) (.tuple #[.int .u32 (x:Int),.int .i64 y])).put (some 5) (.tuple #[.int .u32 (x:Int),.int .i64 y])).put (some (6+5)) (.int .u32 (x:Int))).put (some (6+6)) (.int .i64 y)).put (some 3) (.int .u32 (x:Int))).put (some 4) (.int .i64 y))=a3 at e0 e3 e4 es ed ⊢
 show LW P [dM 1 2 (fun n=>[mk (some n) (.move (tm 4)),mk (some (n+1)) (.binOp .leq K.tInt (tm n) (ki .i64 0) 0)]) (rn K (.int .u32 0)) bp,mw K 4,b6 3 2,aS .ret] 13 _ a3 w'
 refine ad ?_
 rw[aO]
 have key:∀ (b:Bool) (K':Act->World->Prop) (Q':Exit->Act->World->Prop),b=decide (y<=0)->(∀ a',a'.eval (tm (13+1))=.bool b->Pv 13 0 0 13 a3 a'->K' a' w') ->
   wpList P [mk (some 13) (.move (tm 4)),mk (some (13+1)) (.binOp .leq K.tInt (tm 13) (ki .i64 0) 0)].toArray (Exit.then K' Q') [mk (some 13) (.move (tm 4)),mk (some (13+1)) (.binOp .leq K.tInt (tm 13) (ki .i64 0) 0)] a3 w':=by
  intro b K' Q' hb hK
  refine ah ?_
  rw[aa,e4]
  refine bk (b:=b) (p:=y) (q:=0) (k:=.i64) (by rw[aa,ao (by omega)]) rfl (.inr (.inl ⟨rfl,hb⟩)) (wpList_nil (hK _ ?_ (((Pv.refl _ _ _ _ _).put _ (by omega)).put _ (by omega))))
  rw[aa,ao (by simp only[ab];omega)]
 by_cases Iq:y<=0
 ·have hr:b5 r=(0,.fail):=by simp only[b5,hy,Iq,if_true]
  rw[hr]
  refine cL (key true _ _ (by simp[Iq]) fun a' he hp=>⟨he,?_⟩)
  have KY:=hp.size
  exact sX kt ((hp.get 0 (by omega) (.inr ⟨by omega,by omega⟩)).trans e0) hv hRS (by omega) (by omega) fun a4 w4 Om IU IS It=>⟨Om.trans (hp.defers.trans ed),by rw[IU];rfl,IS,It⟩
 ·have hr:b5 r=(x,⟨r.src.drop y.toNat,r.bad,r.nl⟩):=by simp only[b5,hy,hx,Iq,if_false]
  rw[hr]
  have Ib:=rV r.src
  rw[hy]at Ib
  obtain⟨k,rfl⟩:∃ k:Nat,y=(k:Int):=⟨y.toNat,by omega⟩
  refine cD (key false _ _ (by simp;omega) fun a' he hp=>⟨he,.skip ?_⟩)
  have KY:=hp.size
  show LW P [mw K 4,b6 3 2,aS .ret] 21 _ a' w'
  refine ad (y8 kt (k:=k) (l:=4) ((hp.get 0 (by omega) (.inr ⟨by omega,by omega⟩)).trans e0) ((hp.get 4 (by omega) (.inr ⟨by omega,by omega⟩)).trans e4) hv (by omega) hRS (by omega) (by omega) (by omega) fun a5 Js N4=>?_)
  have N2:=Js.size
  rw[show(mw K 4 21).2=30 from rfl]
  refine ad (e7 (x:=2) (m:=0) (k0:=0) (.inl rfl) (Nat.le_refl _) (by omega) (by omega) (by omega) fun a6 hp6 Qk=>ad (.ret ⟨?_,?_,?_,ac.setRow (fun k=>k=R) _ _ _ rfl⟩))
  ·rw[hp6.defers,Js.defers,hp.defers];exact ed
  ·rw[Qk,Js.get 3 (by omega) (.inr ⟨by omega,by omega⟩),hp.get 3 (by omega) (.inr ⟨by omega,by omega⟩),e3]
  ·simpa using N4
end
theorem wc {e e':aI}(h:e.entry=e'.entry):e=e':=by
 obtain⟨k,v,b⟩:=e
 obtain⟨k',v',b'⟩:=e'
 simp only[aI.entry,MapEntry.mk.injEq,Value.int.injEq,true_and]at h
 obtain⟨h1,h2,h3⟩:=h
 have:k=k':=by omega
 subst this h2 h3
 rfl
theorem jM:∀ {l l':List aI},l.map aI.entry=l'.map aI.entry->l=l'
 | [],[],_=>rfl
 | [],_::_,h=>by simp at h
 | _::_,[],h=>by simp at h
 | e::l,e'::l',h=>by
  simp only[List.map_cons,List.cons.injEq]at h
  rw[wc h.1,jM h.2]
section
variable {w w':World} {X:Nat->Prop} {r key:Nat} {t:List (Nat × Bs)} {value:Value} {l:Bs} {es:List aI} {clock:Nat}
theorem sS (h:iq w X r t)(hb:w.heap[r]?=some (.map (es.map aI.entry).toArray clock))(Kk:∀ e∈es,e.key≠key)(hk:key<4294967296)(hv:ci w (fun k=>X k \/ k=r) value l)(KA:ac (·=r) w w')
  (NT:w'.heap[r]?=some (.map ((es++[(⟨key,value,clock⟩:aI)]).map aI.entry).toArray (clock+1))):iq w' X r (cp key l t):=by
 obtain⟨es2,c2,f,h1,h2,h3,h4,h5,h6⟩:=h
 rw[hb]at h1
 simp only[Option.some.injEq,Obj.map.injEq]at h1
 obtain⟨he,rfl⟩:=h1
 have JO:=jM (by simpa using congrArg Array.toList he)
 subst JO
 have RY:ac (fun k=>X k \/ k=r) w w':=KA.mono fun _ _ h=>.inr h
 have Kl:∀ e∈es,¬ e.born=clock:=fun e hm hh=>by have:=(h2 e hm).2.1;omega
 refine⟨es++[⟨key,value,clock⟩],clock+1,fun e=>if e.born=clock then l else f e,NT,fun e hm=>?_,?_,?_,?_,iv _ _ _ h6⟩
 ·rcases List.mem_append.1 hm with hm|hm
  ·obtain⟨e1,e2,e3⟩:=h2 e hm
   refine⟨e1,by omega,?_⟩
   show ci w' _ e.val (if e.born=clock then l else f e)
   rw[if_neg (Kl e hm)]
   exact e3.keep RY
  ·obtain rfl:=List.mem_singleton.1 hm
   exact⟨hk,by simp,by simpa using hv.keep RY⟩
 ·rw[List.map_append,List.nodup_append]
  exact⟨h3,by simp,fun a ha b IK=>by
   obtain⟨e,hm,rfl⟩:=List.mem_map.1 ha
   simp at IK
   have:=(h2 e hm).2.1
   omega⟩
 ·rw[List.map_append,List.nodup_append]
  exact⟨h4,by simp,fun a ha b IK=>by
   obtain⟨e,hm,rfl⟩:=List.mem_map.1 ha
   simp at IK
   rw[IK]
   exact Kk e hm⟩
 ·have KH:(es++[(⟨key,value,clock⟩:aI)]).map (fun e=>(e.key,if e.born=clock then l else f e))=es.map (fun e=>(e.key,f e))++[(key,l)]:=by
   rw[List.map_append]
   congr 1
   ·exact List.map_congr_left fun e hm=>by rw[if_neg (Kl e hm)]
   ·simp
  rw[KH]
  refine List.Perm.trans (List.perm_append_comm) ?_
  refine List.Perm.trans (List.Perm.cons (key,l) h5) (List.Perm.symm (n8 key l t fun y hy=>?_))
  obtain⟨e,hm,WM⟩:=List.mem_map.1 (h5.symm.subset hy)
  rw[<- WM]
  exact Kk e hm
theorem vL {j:Nat}{e0:aI}(h:iq w X r t)(hb:w.heap[r]?=some (.map (es.map aI.entry).toArray clock))(hj:es[j]?=some e0)(Jo:e0.key=key)(hk:key<4294967296)(hv:ci w (fun k=>X k \/ k=r) value l)(KA:ac (·=r) w w')
  (NT:w'.heap[r]?=some (.map ((es.set j (⟨key,value,e0.born⟩:aI)).map aI.entry).toArray clock)):iq w' X r (cp key l t):=by
 obtain⟨es2,c2,f,h1,h2,h3,h4,h5,h6⟩:=h
 rw[hb]at h1
 simp only[Option.some.injEq,Obj.map.injEq]at h1
 obtain⟨he,rfl⟩:=h1
 have JO:=jM (by simpa using congrArg Array.toList he)
 subst JO
 have RY:ac (fun k=>X k \/ k=r) w w':=KA.mono fun _ _ h=>.inr h
 obtain⟨JF,TH⟩:=List.getElem?_eq_some_iff.1 hj
 have LY:e0∈es:=TH ▸ List.getElem_mem JF
 have ME:(es.set j (⟨key,value,e0.born⟩:aI)).map aI.born=es.map aI.born:=by
  rw[List.map_set]
  have:(es.map aI.born)[j]?=some e0.born:=by simp[hj]
  exact List.ext_getElem? fun i=>by
   rw[List.getElem?_set]
   split
   ·rename_i hi;subst hi;simp[JF,TH]
   ·rfl
 have Lu:(es.set j (⟨key,value,e0.born⟩:aI)).map aI.key=es.map aI.key:=by
  rw[List.map_set]
  exact List.ext_getElem? fun i=>by
   rw[List.getElem?_set]
   split
   ·rename_i hi;subst hi;simp[JF,TH,Jo]
   ·rfl
 have OW:∀ i e,es[i]?=some e->e.key=key->i=j:=fun i e hi Nk=>by
  have e1:(es.map aI.key)[i]?=some key:=by simp[hi,Nk]
  have e2:(es.map aI.key)[j]?=some key:=by simp[hj,Jo]
  obtain⟨NF,Xu⟩:=List.getElem?_eq_some_iff.1 e1
  obtain⟨Sc,Sb⟩:=List.getElem?_eq_some_iff.1 e2
  have hp:=List.pairwise_iff_getElem.1 h4
  rcases Nat.lt_trichotomy i j with h|h|h
  ·exact absurd (Xu.trans Sb.symm) (hp i j NF Sc h)
  ·exact h
  ·exact absurd (Sb.trans Xu.symm) (hp j i Sc NF h)
 refine⟨es.set j ⟨key,value,e0.born⟩,clock,fun e=>if e.key=key then l else f e,NT,fun e hm=>?_,by rw[ME];exact h3,by rw[Lu];exact h4,?_,iv _ _ _ h6⟩
 ·obtain⟨i,hi⟩:=List.getElem?_of_mem hm
  rw[List.getElem?_set]at hi
  split at hi
  ·rename_i Jy
   subst Jy
   simp only[Option.some.injEq]at hi
   subst hi
   exact⟨hk,(h2 e0 LY).2.1,by simpa using hv.keep RY⟩
  ·rename_i Jy
   have Vm:e∈es:=List.mem_of_getElem? hi
   obtain⟨e1,e2,e3⟩:=h2 e Vm
   refine⟨e1,e2,?_⟩
   show ci w' _ e.val (if e.key=key then l else f e)
   rw[if_neg (fun Nk=>Jy (OW i e hi Nk).symm)]
   exact e3.keep RY
 ·have KH:(es.set j (⟨key,value,e0.born⟩:aI)).map (fun e=>(e.key,if e.key=key then l else f e))=(es.map (fun e=>(e.key,f e))).map fun p=>if p.1=key then(key,l)else p:=by
   rw[List.map_map]
   refine List.ext_getElem? fun i=>?_
   simp only[List.getElem?_map,List.getElem?_set]
   by_cases Jy:j=i
   ·subst Jy
    simp[JF,TH,Jo]
   ·rw[if_neg Jy]
    cases hi:es[i]? with
    | none=>rfl
    | some e=>
     have Nk:¬ e.key=key:=fun Nk=>Jy (OW i e hi Nk).symm
     simp[Nk]
  rw[KH,nz key l t h6]
  ·exact h5.map _
  ·have:(e0.key,f e0)∈t:=h5.subset (List.mem_map.2 ⟨e0,LY,rfl⟩)
   exact⟨_,this,Jo⟩
end
def cSet (g:G)(tM:Nat):Code:=(gS [dM 4 5 (fun n=>[mk (some n) (.move (tm 0)),mk (some (n+1)) (.nilCheck (tm n)),mk (some (n+2)) (.fieldAddr g.tTags (tm (n+1)) 0),mk (some (n+3)) (.load tM (tm (n+2))),mk (some (n+4)) (.binOp .eql tM (tm (n+3)) (.const (.map none)) 0)])
  (ay 4 fun n=>[mk (some n) (.move (tm 0)),mk (some (n+1)) (.makeMap tM none),mk (some (n+2)) (.nilCheck (tm n)),mk (some (n+3)) (.fieldAddr g.tTags (tm (n+2)) 0),mk none (.store tM (tm (n+3)) (tm (n+1)))]) bp,
 ay 6 fun n=>[mk (some n) (.move (tm 0)),mk (some (n+1)) (.nilCheck (tm n)),mk (some (n+2)) (.fieldAddr g.tTags (tm (n+1)) 0),mk (some (n+3)) (.load tM (tm (n+2))),mk (some (n+4)) (.move (tm 1)),mk (some (n+5)) (.move (tm 2)),mk none (.mapUpdate tM (tm (n+3)) (tm (n+4)) (tm (n+5)))]] 6).1
section
variable {P:Program} {g:G} {w:World} {a:Act}
theorem kL {ops:Array Oper}{Q:Exit->Act->World->Prop}{l:List Oper}{tM:Nat}{x y z:Operand}{m k v:Value}{w':World}(hx:a.eval x=m)(hy:a.eval y=k)(hz:a.eval z=v)(hr:(Instr.mapUpdate tM m k v).run P w=.ok () w')(h:wpList P ops Q l a w') :
  wpList P ops Q (mk none (.mapUpdate tM x y z)::l) a w:=by
 refine tJ (w':=w') ?_ h
 simp[execOp,mk,hx,hy,hz,hr]
theorem rO {ops:Array Oper}{Q:Exit->Act->World->Prop}{l:List Oper}{d:Option Nat}{tM:Nat}(h:wpList P ops Q l (a.put d (.map (some w.heap.size))) (w.alloc (.map #[] 0))):wpList P ops Q (mk d (.makeMap tM none)::l) a w:=by
 refine aB (w':=w.alloc (.map #[] 0)) ?_ h
 have:(Instr.makeMap tM none).run P w=.ok (.map (some w.heap.size)) (w.alloc (.map #[] 0)):=rfl
 simp[execOp,mk,this]
theorem uK {ops:Array Oper}{Q:Exit->Act->World->Prop}{l:List Oper}{d:Option Nat}{tM kt et:Nat}{x:Operand}{m:Option Nat}(hM:P.underlying tM=some (.map kt et))(hx:a.eval x=.map m)(h:wpList P ops Q l (a.put d (.bool m.isNone)) w) :
  wpList P ops Q (mk d (.binOp .eql tM x (.const (.map none)) 0)::l) a w:=by
 refine aB ?_ h
 have hc:a.eval (.const (.map none))=.map none:=rfl
 have he:(eqGuard .eql tM x (.const (.map none)) (.map m) (.map none)).run P w=.ok () w:=by simp[eqGuard]
 have hr:(binOp .eql tM (.map m) (.map none)).run P w=.ok (.bool m.isNone) w:=by
  have h1:(Op.equal tM (.map m) (.map none)).run P w=.ok m.isNone w:=by
   cases m with
   | none=>exact(show(Op.equalIn (9999+1) tM (.map none) (.map none)).run P w=_ from by
     have:∀ d:Nat,(Op.equalIn (d+1) tM (.map none) (.map none)).run P w=.ok true w:=fun d=>by simp[Op.equalIn,run_underlying hM]
     exact this 9999)
   | some r=>exact(show(Op.equalIn (9999+1) tM (.map (some r)) (.map none)).run P w=_ from by
     have:∀ d:Nat,(Op.equalIn (d+1) tM (.map (some r)) (.map none)).run P w=.ok false w:=fun d=>by simp[Op.equalIn,run_underlying hM]
     exact this 9999)
  simp[binOp,h1]
 simp only[execOp,mk,hx,hc,Sem.run_bind,he,Result.andThen_ok,hr,Sem.run_pure]
theorem qI {KK:Act->World->Prop}{Q:Exit->Act->World->Prop}{n tM kt et B o q k clock te:Nat}{v:Value}{cur:Array Value}{es:List aI}(hM:P.underlying tM=some (.map kt et))(hK:P.underlying kt=some (.int .u32))(hF:bw P g.tTags 0 tM 0 false 1)(h0:a.get 0=pt B o)(h1:a.get 1=.int .u32 k)(h2:a.get 2=v)
  (hk:k<4294967296) (hB:w.heap[B]?=some (.cells cur te (0,0))) (hO:cur[o]?=some (.map (some q))) (hq:w.heap[q]?=some (.map (es.map aI.entry).toArray clock)) (hn:n+6<=a.tmps.size) (OS:3<=n)
  (h:∀ a' w',a'.defers=a.defers->ac (·=q) w w'->(∀ (X:Nat->Prop) (t:List (Nat × Bs)) (l:Bs),iq w X q t->ci w (fun b=>X b \/ b=q) v l->iq w' X q (cp k l t))->KK a' w') :
  aK P (ay 6 (fun n=>[mk (some n) (.move (tm 0)),mk (some (n+1)) (.nilCheck (tm n)),mk (some (n+2)) (.fieldAddr g.tTags (tm (n+1)) 0),mk (some (n+3)) (.load tM (tm (n+2))),mk (some (n+4)) (.move (tm 1)),mk (some (n+5)) (.move (tm 2)),mk none (.mapUpdate tM (tm (n+3)) (tm (n+4)) (tm (n+5)))]) n).1 (Exit.then KK Q) a w:=by
 have hc:w.cell? ⟨B,o+0,none⟩=some (.map (some q)):=by simp only[World.cell?,hB];simpa using hO
 refine aq (ah ?_)
 rw[aa,h0]
 refine aG (by rw[aa,ao (by omega)];rfl) ?_
 refine bN (by rw[aa,ao (by simp only[ab];omega)]) hF ?_
 refine bg (by rw[aa,ao (by simp only[ab];omega)]) (hF.var.agg _) hc ?_
 refine ah ?_
 rw[aa,al (by omega),al (by omega),al (by omega),al (by omega),h1]
 refine ah ?_
 rw[aa,al (by omega),al (by omega),al (by omega),al (by omega),al (by omega),h2]
 have Rz:q<w.heap.size:=(Array.getElem?_eq_some_iff.1 hq).1
 have KA:∀ ob:Obj,ac (·=q) w { w with heap:=w.heap.setIfInBounds q ob }:=fun ob=>⟨rfl,rfl,rfl,by simp,fun i _ hi=>by
  show(w.heap.setIfInBounds q ob)[i]?=_
  rw[Array.getElem?_setIfInBounds,if_neg (fun h=>hi h.symm)]⟩
 have IP:∀ ob:Obj,({ w with heap:=w.heap.setIfInBounds q ob }:World).heap[q]?=some ob:=fun ob=>by
  show(w.heap.setIfInBounds q ob)[q]?=_
  rw[Array.getElem?_setIfInBounds,if_pos rfl,if_pos Rz]
 rcases s6 (key:=k) (value:=v) hM hK hq with⟨Kk,hr⟩|⟨j,e,hj,Nk,hr⟩
 ·refine kL (by rw[aa,al (by omega),al (by omega),ao (by simp only[ab];omega)]) (by rw[aa,al (by omega),ao (by simp only[ab];omega)]) (by rw[aa,ao (by simp only[ab];omega)]) hr (wpList_nil (h _ _ (by simp only[aj]) (KA _) fun X t l RI Iu=>?_))
  exact sS RI hq Kk hk Iu (KA _) (IP _)
 ·refine kL (by rw[aa,al (by omega),al (by omega),ao (by simp only[ab];omega)]) (by rw[aa,al (by omega),ao (by simp only[ab];omega)]) (by rw[aa,ao (by simp only[ab];omega)]) hr (wpList_nil (h _ _ (by simp only[aj]) (KA _) fun X t l RI Iu=>?_))
  exact vL RI hq hj Nk hk Iu (KA _) (IP _)
theorem ci.and {X Y:Nat->Prop}{v:Value}{l:Bs}(h:ci w X v l)(k:ci w Y v l):ci w (fun b=>X b \/ Y b) v l:=by
 rcases h with h|⟨b,o,c,h1,h2,h3⟩
 ·exact .inl h
 ·rcases k with k|⟨b',o',c',k1,k2,_⟩
  ·exact .inl k
  ·rw[h1]at k1
   simp only[Value.slice.injEq,Option.some.injEq,Addr.mk.injEq]at k1
   obtain⟨⟨rfl,_⟩,_⟩:=k1
   exact .inr ⟨b,o,c,h1,fun h=>h.elim h2 k2,h3⟩
theorem set_calls (hm:P.follows .mixedOrders=true){f ntmps tM kt et:Nat}(hfn:FnIs P f ntmps [] (cSet g tM))(Iv:21<=ntmps)(hM:P.underlying tM=some (.map kt et))(hK:P.underlying kt=some (.int .u32))(hF:bw P g.tTags 0 tM 0 false 1)
  {B o k:Nat} {m:Value} {t:List (Nat × Bs)} {v:Value} {l:Bs} {cur:Array Value} {te:TypeId} (hk:k<4294967296) (hB:w.heap[B]?=some (.cells cur te (0,0))) (hO:cur[o]?=some m) (ht:cF w (·=B) m t) (Mi:ci w (·=B) v l) :
  Calls P f #[pt B o,.int .u32 k,v] w fun e w'=>e=.returned (.tuple #[])/\∃ (q:Nat) (w1:World),w'=w1/\ac (fun b=>b=B \/ b=q) w w'/\(m=.map none->q=w.heap.size)/\(∀ r,m=.map (some r)->q=r) /\
   w'.heap[B]?=some (.cells (cur.setIfInBounds o (.map (some q))) te (0,0))/\∀ X:Nat->Prop,¬ X q->(∀ k,X k->k<w.heap.size)->ci w (fun k=>X k \/ k=q) v l->cF w X m t->cF w' X (.map (some q)) (cp k l t):=by
 refine hfn.calls hm (by simp) ?_
 have Ii:=ck #[pt B o,.int .u32 k,v] ntmps (by show 3<=ntmps;omega)
 have Jp:({ tmps:=#[pt B o,.int .u32 k,v]++Array.replicate (ntmps-(#[pt B o,.int .u32 k,v]:Array Value).size) undef,defers:=[] }:Act).get 0=pt B o:=by rw[b9 _ _ _ (by simp)];rfl
 have Ig:({ tmps:=#[pt B o,.int .u32 k,v]++Array.replicate (ntmps-(#[pt B o,.int .u32 k,v]:Array Value).size) undef,defers:=[] }:Act).get 1=.int .u32 k:=by rw[b9 _ _ _ (by simp)];rfl
 have Ij:({ tmps:=#[pt B o,.int .u32 k,v]++Array.replicate (ntmps-(#[pt B o,.int .u32 k,v]:Array Value).size) undef,defers:=[] }:Act).get 2=v:=by rw[b9 _ _ _ (by simp)];rfl
 have hd:({ tmps:=#[pt B o,.int .u32 k,v]++Array.replicate (ntmps-(#[pt B o,.int .u32 k,v]:Array Value).size) undef,defers:=[] }:Act).defers=[]:=rfl
 have hs:({ tmps:=#[pt B o,.int .u32 k,v]++Array.replicate (ntmps-(#[pt B o,.int .u32 k,v]:Array Value).size) undef,defers:=[] }:Act).tmps.size=ntmps:=Ii
 generalize({ tmps:=#[pt B o,.int .u32 k,v]++Array.replicate (ntmps-(#[pt B o,.int .u32 k,v]:Array Value).size) undef,defers:=[] }:Act)=a at Jp Ig Ij hd hs ⊢
 have Oq:B<w.heap.size:=(Array.getElem?_eq_some_iff.1 hB).1
 have PQ:o<cur.size:=(Array.getElem?_eq_some_iff.1 hO).1
 have hc:w.cell? ⟨B,o+0,none⟩=some m:=by simp only[World.cell?,hB];simpa using hO
 obtain⟨mm,rfl⟩:∃ mm,m=.map mm:=by
  rcases ht with⟨h,_⟩|⟨r,h,_⟩
  ·exact⟨none,h⟩
  ·exact⟨some r,h⟩
 refine aY (ad ?_)
 have key:∀ (K':Act->World->Prop) (Q':Exit->Act->World->Prop),(∀ a',a'.eval (tm (6+4))=.bool mm.isNone->Pv 6 0 0 6 a a'->K' a' w) ->
   wpList P [mk (some 6) (.move (tm 0)),mk (some (6+1)) (.nilCheck (tm 6)),mk (some (6+2)) (.fieldAddr g.tTags (tm (6+1)) 0),mk (some (6+3)) (.load tM (tm (6+2))),mk (some (6+4)) (.binOp .eql tM (tm (6+3)) (.const (.map none)) 0)].toArray (Exit.then K' Q')
   [mk (some 6) (.move (tm 0)),mk (some (6+1)) (.nilCheck (tm 6)),mk (some (6+2)) (.fieldAddr g.tTags (tm (6+1)) 0),mk (some (6+3)) (.load tM (tm (6+2))),mk (some (6+4)) (.binOp .eql tM (tm (6+3)) (.const (.map none)) 0)] a w:=by
  intro K' Q' hK'
  refine ah ?_
  rw[aa,Jp]
  refine aG (by rw[aa,ao (by omega)];rfl) ?_
  refine bN (by rw[aa,ao (by simp only[ab];omega)]) hF ?_
  refine bg (by rw[aa,ao (by simp only[ab];omega)]) (hF.var.agg _) hc ?_
  refine uK hM (by rw[aa,ao (by simp only[ab];omega)]) (wpList_nil (hK' _ (by rw[aa,ao (by simp only[ab];omega)]) ((((((Pv.refl _ _ _ _ _).put _ (by omega)).put _ (by omega)).put _ (by omega)).put _ (by omega)).put _ (by omega))))
 cases mm with
 | none=>
  refine cL (key _ _ fun a1 he hp=>⟨he,?_⟩)
  have If:=hp.size
  have XR:a1.get 0=pt B o:=(hp.get 0 (by omega) (.inr ⟨by omega,by omega⟩)).trans Jp
  refine aq (ah ?_)
  rw[aa,XR]
  refine rO ?_
  refine aG (by rw[aa,al (by omega),ao (by omega)];rfl) ?_
  refine bN (by rw[aa,ao (by simp only[ab];omega)]) hF ?_
  have Ly:(w.alloc (.map #[] 0)).heap[B]?=some (.cells cur te (0,0)):=by rw[bu Oq];exact hB
  refine bm (cur:=cur) (t:=te) (v:=.map (some w.heap.size)) (vs:=[.map (some w.heap.size)]) (by rw[aa,ao (by simp only[ab];omega)]) (by rw[aa,al (by omega),al (by omega),ao (by simp only[ab];omega)]) rfl (hF.var.size _) Ly (by simp only[List.length_cons,List.length_nil];omega) (fun u hu=>by simp at hu;rw[hu];rfl) (wpList_nil ?_)
  have e1:aD cur (o+0) [.map (some w.heap.size)]=cur.setIfInBounds o (.map (some w.heap.size)):=gF PQ
  rw[e1]
  have KL:((w.alloc (.map #[] 0)).setRow B (cur.setIfInBounds o (.map (some w.heap.size)))).heap[B]?=some (.cells (cur.setIfInBounds o (.map (some w.heap.size))) te (0,0)):=setRow_heap _ _ _ _ _ _ Ly
  have Lk:((w.alloc (.map #[] 0)).setRow B (cur.setIfInBounds o (.map (some w.heap.size)))).heap[w.heap.size]?=some (.map (([]:List aI).map aI.entry).toArray 0):=by rw[setRow_other _ _ _ _ (by omega)];exact heap_alloc_new _ _
  have Ic:ac (fun b=>b=B) w ((w.alloc (.map #[] 0)).setRow B (cur.setIfInBounds o (.map (some w.heap.size)))):=(ac.alloc (fun b=>b=B) w _).trans (ac.setRow (fun b=>b=B) _ _ _ rfl)
  have MK:((w.alloc (.map #[] 0)).setRow B (cur.setIfInBounds o (.map (some w.heap.size)))).heap.size=w.heap.size+1:=by simp
  generalize(w.alloc (.map #[] 0)).setRow B (cur.setIfInBounds o (.map (some w.heap.size)))=w2 at KL Lk Ic MK ⊢
  refine ad (qI (v:=v) (k:=k) (cur:=cur.setIfInBounds o (.map (some w.heap.size))) (o:=o) (q:=w.heap.size) hM hK hF ?_ ?_ ?_ hk KL (by simp[PQ]) Lk (by simp only[ab,dM,ay,bp,aS];omega) (by simp only[dM,ay,bp,aS];omega) fun a3 w3 J9 Il KH=>bf ⟨?_,rfl,w.heap.size,w3,rfl,?_,fun _=>rfl,fun r h=>(by cases h),?_,fun X Q3 hX Iu IW=>?_⟩)
  ·rw[al (by omega),al (by omega),al (by omega),al (by omega)];exact XR
  ·rw[al (by omega),al (by omega),al (by omega),al (by omega)];exact(hp.get 1 (by omega) (.inr ⟨by omega,by omega⟩)).trans Ig
  ·rw[al (by omega),al (by omega),al (by omega),al (by omega)];exact(hp.get 2 (by omega) (.inr ⟨by omega,by omega⟩)).trans Ij
  ·rw[J9];simp only[aj];rw[hp.defers];exact hd
  ·exact(Ic.mono fun _ _ h=>.inl h).trans (Il.mono fun _ _ h=>.inr h)
  ·rw[Il.block B (by omega) (by omega)];exact KL
  ·rcases IW with⟨_,rfl⟩|⟨r,h,_⟩
   ·refine .inr ⟨w.heap.size,rfl,Q3,by have:=Il.size;omega,KH X [] l ⟨[],0,fun _=>[],Lk,fun e he=>by simp at he,by simp,by simp,by simp,trivial⟩ ?_,oM _ _ _⟩
    exact((Iu.and Mi).keep (Ic.mono fun _ _ h=>.inr h)).mono fun _ _ h=>.inl h
   ·cases h
 | some r=>
  refine cD (key _ _ fun a1 he hp=>⟨he,.skip ?_⟩)
  have If:=hp.size
  have hrB:¬ r=B/\∃ (es:List aI) (clock:Nat),w.heap[r]?=some (.map (es.map aI.entry).toArray clock):=by
   rcases ht with⟨h,_⟩|⟨r2,h,h1,_,⟨es,c,_,h2,_⟩,_⟩
   ·cases h
   ·cases h;exact⟨h1,es,c,h2⟩
  obtain⟨UG,es,clock,hq⟩:=hrB
  refine ad (qI (cur:=cur) (o:=o) (q:=r) hM hK hF ((hp.get 0 (by omega) (.inr ⟨by omega,by omega⟩)).trans Jp) ((hp.get 1 (by omega) (.inr ⟨by omega,by omega⟩)).trans Ig) ((hp.get 2 (by omega) (.inr ⟨by omega,by omega⟩)).trans Ij) hk hB hO hq (by simp only[dM,ay,bp,aS];omega) (by simp only[dM,ay,bp,aS];omega) fun a3 w3 J9 Il KH=>bf ⟨?_,rfl,r,w3,rfl,Il.mono fun _ _ h=>.inr h,fun h=>(by cases h),fun r' h=>(by cases h;rfl),?_,fun X Q3 hX Iu IW=>?_⟩)
  ·rw[J9,hp.defers];exact hd
  ·rw[Il.block B Oq (fun h=>UG h.symm),hB]
   congr 2
   apply Array.ext_getElem?
   intro i
   rw[Array.getElem?_setIfInBounds]
   split
   ·rename_i hi;subst hi;first|exact hO.symm|(rw[if_pos PQ];exact hO.symm)|exact hO
   ·rfl
  ·rcases IW with⟨h,_⟩|⟨r2,h,_,h2,h3,_⟩
   ·cases h
   ·cases h
    exact .inr ⟨r,rfl,Q3,Nat.lt_of_lt_of_le h2 Il.size,KH X t l h3 Iu,oM _ _ _⟩
end
section
variable {P:Program} {g:G} {K:Kn}
structure TI (g:G)(S R p2 p3 ntmps:Nat)(w0:World)(fin:List (Nat × Bs) × RS)(c:Nat)(a:Act)(w:World):Prop where
 g0:a.get 0=pt R 0
 g2:a.get 2=pt p2 0
 g3:a.get 3=pt p3 0
 g4:a.get 4=.int .u32 c
 size:a.tmps.size=ntmps
 defers:a.defers=[]
 keeps:ac (·=R) w0 w
 b2:w.heap[p2]?=some (.cells #[.map none] g.tTags (0,0))
 ex:∃ t r mm,fz c t r=fin/\cy w g.tR S R r/\w.heap[p3]?=some (.cells #[mm] g.tTags (0,0))/\(mm=.map none \/ ∃ q,mm=.map (some q)/\w0.heap.size+2<=q)/\∀ X:Nat->Prop,(∀ k,X k->k<w0.heap.size+2)->¬ X S->cF w X mm t
def SetOk (P:Program)(f:Nat):Prop:=
 ∀ (w:World) (B o:Nat) (m:Value) (t:List (Nat × Bs)) (k:Nat) (v:Value) (l:Bs) (cur:Array Value) (te:TypeId),k<4294967296->w.heap[B]?=some (.cells cur te (0,0))->cur[o]?=some m->cF w (·=B) m t->ci w (·=B) v l ->
  Calls P f #[pt B o,.int .u32 k,v] w fun e w'=>e=.returned (.tuple #[])/\∃ (q:Nat) (w1:World),w'=w1/\ac (fun b=>b=B \/ b=q) w w'/\(m=.map none->q=w.heap.size)/\(∀ r,m=.map (some r)->q=r) /\
   w'.heap[B]?=some (.cells (cur.setIfInBounds o (.map (some q))) te (0,0))/\∀ X:Nat->Prop,¬ X q->(∀ k,X k->k<w.heap.size)->ci w (fun k=>X k \/ k=q) v l->cF w X m t->cF w' X (.map (some q)) (cp k l t)
theorem ve {T:Nat}(kt:KT P g K)(ks:KSub P g K T)(Lo:b7 g.uv=true)(Kv:b7 g.span=true)(hT:T=g.tR)(Rq:Ent P g.set)(Jr:SetOk P g.set){S R p2 p3 ntmps c:Nat}{w0 w:World}{fin:List (Nat × Bs) × RS}{a:Act}{KK:Act->World->Prop}{Q:Exit->Act->World->Prop}
  (HZ:p2=w0.heap.size) (Ie:p3=w0.heap.size+1) (hS:S<w0.heap.size) (hR:R<w0.heap.size) (hRS:S≠R) (Iv:24<=ntmps) (hI:TI g S R p2 p3 ntmps w0 fin (c+1) a w)
  (h:∀ a' w',a'.get 4=.int .u32 ((c+1:Nat):Int)->(∀ a'',a''.get 0=a'.get 0->a''.get 2=a'.get 2->a''.get 3=a'.get 3->a''.get 4=.int .u32 c->a''.tmps.size=a'.tmps.size->a''.defers=a'.defers->TI g S R p2 p3 ntmps w0 fin c a'' w')->a'.tmps.size=ntmps->KK a' w') :
  aK P (.seq (rg [mk (some 13) (.move (tm 0)),cl (some 14) g.uv [tm 13],mk (some 15) (.move (tm 0)),cl (some 16) g.uv [tm 15],mk (some 5) (.assign (tm 14)),mk (some 6) (.assign (tm 16))])
   (rg [mk (some 17) (.move (tm 5)),mk (some 18) (.move (tm 0)),mk (some 19) (.move (tm 6)),mk (some 20) (.convert K.tU32 K.tInt (tm 19)),cl (some 21) g.span [tm 18,tm 20],cl (some 22) g.set [tm 3,tm 17,tm 21]])) (Exit.then KK Q) a w:=by
 subst hT
 obtain⟨t,r,mm,MV,Lt,LL,K9,IW⟩:=hI.ex
 have hs:=hI.size
 refine .seq (R:=Exit.then (fun a1 w1=>∃ w',w1=w'/\(∀ s,s<5->a1.get s=a.get s)/\a1.get 5=.int .u32 (b5 r).1/\a1.get 6=.int .u32 (b5 (b5 r).2).1/\a1.tmps.size=ntmps/\a1.defers=[]/\cy w' g.tR S R (b5 (b5 r).2).2/\ac (·=R) w w') Q) (aq ?_) (fun a1 w1 hh=>?_) (fun e a w he hq=>by rw[cq he]at hq ⊢;exact hq)
 ·refine ah ?_
  rw[aa,hI.g0]
  refine aN (vs:=#[pt R 0]) (ks.eU Lo) (by simp[aa,ao (show 13<a.tmps.size by omega)]) (ks.cU Lo w S R r Lt hRS) fun e w1 hR1=>⟨_,hR1.1,?_⟩
  refine ah ?_
  rw[aa,al (by omega),al (by omega),hI.g0]
  refine aN (vs:=#[pt R 0]) (ks.eU Lo) (by simp[aa,ao (show 15<((a.put (some 13) (pt R 0)).put (some 14) (.int .u32 (b5 r).1)).tmps.size by simp only[ab];omega)]) (ks.cU Lo w1 S R (b5 r).2 hR1.2.1 hRS) fun e2 w2 JD=>⟨_,JD.1,?_⟩
  refine ak (ak (wpList_nil ⟨w2,rfl,fun s N2=>?_,?_,?_,?_,?_,JD.2.1,hR1.2.2.trans JD.2.2⟩))
  ·rw[al (by omega),al (by omega),al (by omega),al (by omega),al (by omega),al (by omega)]
  ·rw[al (by omega),ao (by simp only[ab];omega),aa,al (by omega),al (by omega),ao (by simp only[ab];omega)]
  ·rw[ao (by simp only[ab];omega),aa,al (by omega),ao (by simp only[ab];omega)]
  ·simp only[ab];exact hs
  ·simp only[aj];exact hI.defers
 ·obtain⟨w1',rfl,Ik,h5,h6,If,Ks,J5,Ir⟩:=hh
  have Id:=jA (b5 r).2
  have PC:=hI.keeps.size
  have hk01:ac (·=R) w0 w1:=hI.keeps.trans Ir
  have UT:p3<w.heap.size:=(Array.getElem?_eq_some_iff.1 LL).1
  have UU:p2<w.heap.size:=(Array.getElem?_eq_some_iff.1 hI.b2).1
  have KD:=Ir.size
  refine aq (ah ?_)
  rw[aa,h5]
  refine ah ?_
  rw[aa,al (by omega),Ik 0 (by omega),hI.g0]
  refine ah ?_
  rw[aa,al (by omega),al (by omega),h6]
  have IR:IntKind.i64.wrap ((b5 (b5 r).2).1:Int)=((b5 (b5 r).2).1:Int):=by simp[IntKind.wrap,IntKind.bits,IntKind.signed];omega
  refine aL (k:=.u32) (k':=.i64) (m:=((b5 (b5 r).2).1:Int)) (by rw[aa,ao (by simp only[ab];omega)]) kt.dU32 kt.dInt ?_
  rw[IR]
  refine aN (vs:=#[pt R 0,.int .i64 ((b5 (b5 r).2).1:Int)]) (ks.eS Kv) ?_ (ks.cS Kv w1 S R _ _ J5 hRS) fun e w2 JD=>?_
  ·simp only[List.map_cons,List.map_nil,aa]
   rw[ao (by simp only[ab];omega),al (show 18≠20 by omega),al (show 18≠19 by omega),ao (by simp only[ab];omega)]
  obtain⟨v,he,I1,Ic,KU⟩:=JD
  refine⟨v,he,?_⟩
  have IY:ac (·=R) w w2:=Ir.trans Ic
  have We:w2.heap[p3]?=some (.cells #[mm] g.tTags (0,0)):=by rw[IY.block p3 UT (by omega)];exact LL
  have MK:=Ic.size
  have L1:∀ X:Nat->Prop,(∀ k,X k->k<w0.heap.size+2)->¬ X S->cF w2 X mm t:=fun X hX hXS=>
   ((IW (fun k=>X k \/ k=R) (fun k hk=>by rcases hk with hk|hk;exact hX k hk;omega) (fun hk=>by rcases hk with hk|hk;exact hXS hk;exact hRS hk)).keep (IY.mono fun _ _ h=>.inr h)).mono fun _ _ h=>.inl h
  have J0:=jA r
  refine aN (vs:=#[pt p3 0,.int .u32 (b5 r).1,v]) Rq ?_ (Jr w2 p3 0 mm t (b5 r).1 v _ #[mm] g.tTags J0 We rfl (L1 _ (fun k hk=>by omega) (by omega)) (KU.sl (by omega))) fun e3 w3 hR3=>?_
  ·simp only[List.map_cons,List.map_nil,aa]
   rw[ao (by simp only[ab];omega),al (show 3≠21 by omega),al (show 3≠20 by omega),al (show 3≠19 by omega),al (show 3≠18 by omega),al (show 3≠17 by omega),Ik 3 (by omega),hI.g3,
    al (show 17≠21 by omega),al (show 17≠20 by omega),al (show 17≠19 by omega),al (show 17≠18 by omega),ao (by omega)]
  obtain⟨SC,q,w',rfl,Il,NZ,JV,M1,Ta⟩:=hR3
  have hqg:w0.heap.size+2<=q:=by
   rcases K9 with hm|⟨q',hm,T8⟩
   ·rw[NZ hm];omega
   ·rw[JV q' hm];exact T8
  have PB:=Il.size
  refine⟨_,SC,wpList_nil (h _ w3 ?_ (fun a'' e0 e2 e3' e4 es ed=>⟨e0.trans ?_,e2.trans ?_,e3'.trans ?_,e4,es.trans ?_,ed.trans ?_,?_,?_,cp (b5 r).1 _ t,_,.map (some q),MV,I1.keep Il (by omega) (by omega),?_,.inr ⟨q,rfl,hqg⟩,fun X hX hXS=>?_⟩) ?_)⟩
  ·rw[al (by omega),al (by omega),al (by omega),al (by omega),al (by omega),al (by omega),Ik 4 (by omega)];exact hI.g4
  ·rw[al (by omega),al (by omega),al (by omega),al (by omega),al (by omega),al (by omega),Ik 0 (by omega)];exact hI.g0
  ·rw[al (by omega),al (by omega),al (by omega),al (by omega),al (by omega),al (by omega),Ik 2 (by omega)];exact hI.g2
  ·rw[al (by omega),al (by omega),al (by omega),al (by omega),al (by omega),al (by omega),Ik 3 (by omega)];exact hI.g3
  ·simp only[ab];exact If
  ·simp only[aj];exact Ks
  ·refine⟨Il.os.trans (IY.os.trans hI.keeps.os),Il.tape.trans (IY.tape.trans hI.keeps.tape),Il.output.trans (IY.output.trans hI.keeps.output),by omega,fun i hi hx=>?_⟩
   rw[Il.block i (by omega) (by omega),IY.block i (by omega) hx,hI.keeps.block i hi hx]
  ·rw[Il.block p2 (by omega) (by omega),IY.block p2 UU (by omega)];exact hI.b2
  ·rw[M1];rfl
  ·exact Ta X (fun h=>by have:=hX q h;omega) (fun k hk=>by have:=hX k hk;omega) (KU.sl fun h=>by rcases h with h|h;exact hXS h;omega) (L1 X hX hXS)
  ·simp only[ab];exact If
end
section
variable {P:Program} {g:G} {K:Kn}
theorem m9 {F p:Nat}{w:World}{v x:Value}(hV:bc P F true 1)(hb:w.heap[p]?=some (.cells (aD #[x] 0 [v]) F (0,0))):(loadVar F ⟨p,0,none⟩).run P w=.ok (.agg #[v]) w:=by
 have hl:=run_loadCells_list (P:=P) w ⟨p,0,none⟩ [v] (fun j u hj=>by
  rw[Addr.add_lit]
  cases j with
  | zero=>simp at hj;subst hj;simp[World.cell?,hb,aD]
  | succ j=>simp at hj)
 simp only[List.length_cons,List.length_nil,Nat.zero_add]at hl
 simp[loadVar,hV.agg w,hV.size w,hl]
theorem TI.put {S R p2 p3 ntmps c:Nat}{w0 w:World}{fin:List (Nat × Bs) × RS}{a:Act}(h:TI g S R p2 p3 ntmps w0 fin c a w){d:Nat}{v:Value}(hd:5<=d):TI g S R p2 p3 ntmps w0 fin c (a.put (some d) v) w:=
 ⟨by rw[al (by omega)];exact h.g0,by rw[al (by omega)];exact h.g2,by rw[al (by omega)];exact h.g3,by rw[al (by omega)];exact h.g4,by rw[ab];exact h.size,by rw[aj];exact h.defers,h.keeps,h.b2,h.ex⟩
theorem vf {T:Nat}(kt:KT P g K)(ks:KSub P g K T)(Lo:b7 g.uv=true)(Kv:b7 g.span=true)(hT:T=g.tR)(Rq:Ent P g.set)(Jr:SetOk P g.set){S R p2 p3 ntmps:Nat}{w0 w:World}{fin:List (Nat × Bs) × RS}{c:Nat}{a:Act}{KK E:Act->World->Prop}
  (HZ:p2=w0.heap.size) (Ie:p3=w0.heap.size+1) (hS:S<w0.heap.size) (hR:R<w0.heap.size) (hRS:S≠R) (Iv:24<=ntmps) (Ln:c<4294967296) (hI:TI g S R p2 p3 ntmps w0 fin c a w)
  (h:∀ a' w',TI g S R p2 p3 ntmps w0 fin 0 a' w'->KK a' w') :
  aK P (.block 0 (.loop (.seq (.seq (rg [mk (some 9) (.move (tm 4)),mk (some 10) (.binOp .gtr K.tU32 (tm 9) (ki .u32 0) 0)]) (.cond (tm 10) .skip (.exit 0)))
  (.seq (.block 1 (.seq (rg [mk (some 13) (.move (tm 0)),cl (some 14) g.uv [tm 13],mk (some 15) (.move (tm 0)),cl (some 16) g.uv [tm 15],mk (some 5) (.assign (tm 14)),mk (some 6) (.assign (tm 16))])
   (rg [mk (some 17) (.move (tm 5)),mk (some 18) (.move (tm 0)),mk (some 19) (.move (tm 6)),mk (some 20) (.convert K.tU32 K.tInt (tm 19)),cl (some 21) g.span [tm 18,tm 20],cl (some 22) g.set [tm 3,tm 17,tm 21]])))
   (rg [mk (some 11) (.move (tm 4)),mk (some 12) (.binOp .sub K.tU32 (tm 11) (ki .u32 1) 0),mk (some 4) (.assign (tm 12))]))))) (Rt KK E) a w:=by
 refine .block (.loop (fun a1 w1=>∃ c:Nat,c<4294967296/\TI g S R p2 p3 ntmps w0 fin c a1 w1) (fun a1 _=>(match a1.get 4 with|.int _ q=>q|_=>0).toNat) ⟨c,Ln,hI⟩ ?_)
 rintro a1 w1 ⟨c,JG,h1⟩
 have If:=h1.size
 have Ip:∀ (b:Bool),b=decide ((0:Int)<(c:Int))->wpList P [mk (some 9) (.move (tm 4)),mk (some 10) (.binOp .gtr K.tU32 (tm 9) (ki .u32 0) 0)].toArray
   (Rt (fun a' w'=>a'.eval (tm 10)=.bool b/\TI g S R p2 p3 ntmps w0 fin c a' w'/\w'=w1) E) [mk (some 9) (.move (tm 4)),mk (some 10) (.binOp .gtr K.tU32 (tm 9) (ki .u32 0) 0)] a1 w1:=by
  intro b hb
  refine ah ?_
  rw[aa,h1.g4]
  refine bk (b:=b) (p:=c) (q:=0) (k:=.u32) (by rw[aa,ao (by omega)]) rfl (.inr (.inr (.inr (.inl ⟨rfl,hb⟩)))) (wpList_nil ?_)
  exact⟨by rw[aa,ao (by simp only[ab];omega)],(h1.put (by omega)).put (by omega),rfl⟩
 cases c with
 | succ c=>
  refine .seq (R:=Rt (fun a2 w2=>TI g S R p2 p3 ntmps w0 fin (c+1) a2 w2/\w2=w1) E) ?_ (fun a2 w2 hh=>?_) (fun e a w he hq=>by cases e<;>first|exact absurd rfl he|exact hq|exact hq.elim)
  ·refine .seq (.reg (Ip true (by simp))) (fun a2 w2 hh=>.condT hh.1 (.skip hh.2)) (fun e a w he hq=>by cases e<;>first|exact absurd rfl he|exact hq)
  ·obtain⟨h2,rfl⟩:=hh
   refine .seq (R:=Rt (fun a3 w3=>a3.get 4=.int .u32 ((c+1:Nat):Int)/\(∀ a'',a''.get 0=a3.get 0->a''.get 2=a3.get 2->a''.get 3=a3.get 3->a''.get 4=.int .u32 c->a''.tmps.size=a3.tmps.size->a''.defers=a3.defers->TI g S R p2 p3 ntmps w0 fin c a'' w3)/\a3.tmps.size=ntmps) E)
    (.block (.mono (ve kt ks Lo Kv hT Rq Jr HZ Ie hS hR hRS Iv h2 (Q:=Rt (fun _ _=>False) E) (KK:=fun a3 w3=>a3.get 4=.int .u32 ((c+1:Nat):Int)/\(∀ a'',a''.get 0=a3.get 0->a''.get 2=a3.get 2->a''.get 3=a3.get 3->a''.get 4=.int .u32 c->a''.tmps.size=a3.tmps.size->a''.defers=a3.defers->TI g S R p2 p3 ntmps w0 fin c a'' w3)/\a3.tmps.size=ntmps) (fun a' w' x y z=>⟨x,y,z⟩))
     fun e a w hq=>by cases e<;>first|exact hq|exact hq.elim)) (fun a3 w3 hh=>?_) (fun e a w he hq=>by cases e<;>first|exact absurd rfl he|exact hq|exact hq.elim)
   obtain⟨I2,Ta,IJ⟩:=hh
   refine .reg (ah ?_)
   rw[aa,I2]
   have IR:IntKind.u32.wrap (((c+1:Nat):Int)-1)=(c:Int):=by simp[IntKind.wrap,IntKind.bits,IntKind.signed];omega
   refine co (v:=.int .u32 (c:Int)) (k:=.u32) (m:=((c+1:Nat):Int)) (n:=1) (by rw[aa,ao (by omega)]) rfl (by simp) (by simp only[binOp,Op.intArith,IR];simp) ?_
   refine ak (wpList_nil ?_)
   rw[aa,ao (by simp only[ab];omega)]
   have Ko:(((a3.put (some 11) (.int .u32 ((c+1:Nat):Int))).put (some 12) (.int .u32 (c:Int))).put (some 4) (.int .u32 (c:Int))).get 4=.int .u32 (c:Int):=ao (by simp only[ab];omega)
   refine⟨⟨c,by omega,Ta _ ?_ ?_ ?_ Ko ?_ ?_⟩,?_⟩
   ·rw[al (by omega),al (by omega),al (by omega)]
   ·rw[al (by omega),al (by omega),al (by omega)]
   ·rw[al (by omega),al (by omega),al (by omega)]
   ·simp only[ab]
   ·simp only[aj]
   ·rw[Ko,h1.g4]
    simp only
    omega
 | zero=>
  refine .seq (R:=fun e a w=>e≠.normal/\Exit.inBlock 0 (Rt KK E) e a w) ?_ (fun a2 w2 hh=>absurd rfl hh.1) (fun e a w he hq=>?_)
  ·refine .seq (R:=Rt (fun a' w'=>a'.eval (tm 10)=.bool false/\TI g S R p2 p3 ntmps w0 fin 0 a' w'/\w'=w1) E) (.reg (Ip false (by simp))) (fun a2 w2 hh=>.condF hh.1 (.exit ?_)) (fun e a w he hq=>by cases e<;>first|exact absurd rfl he|exact⟨by simp,hq⟩|exact hq.elim)
   simp only[Exit.inBlock,if_true]
   exact⟨by simp,h a2 w2 hh.2.1⟩
  ·rw[cq he];exact hq.2
theorem rdTags_calls {T:Nat}(kt:KT P g K)(ks:KSub P g K T)(Lo:b7 g.uv=true)(Kv:b7 g.span=true)(hT:T=g.tR)(Rq:Ent P g.set)(Jr:SetOk P g.set)(hz:∀ w,(zeroValue g.tTags).run P w=.ok (.agg #[.map none]) w)(hV:bc P g.tTags true 1){f ntmps:Nat}(hfn:FnIsC P f ntmps 2 g.tTags (cRdTags g K))(Iv:24<=ntmps)
  {w:World} {S R:Nat} {r:RS} (hR:cy w g.tR S R r) (hRS:S≠R) (hS:S<w.heap.size):Calls P f #[pt R 0] w fun e w'=>
  ∃ m,e=.returned (.agg #[m])/\cy w' g.tR S R (fz (b5 r).1 [] (b5 r).2).2/\ac (·=R) w w'/\∀ X:Nat->Prop,(∀ k,X k->k<w.heap.size)->¬ X S->cF w' X m (fz (b5 r).1 [] (b5 r).2).1:=by
 refine hfn.calls kt.mixed ?_
 have Ii:=ck #[pt R 0] ntmps (by show 1<=ntmps;omega)
 have Jp:({ tmps:=#[pt R 0]++Array.replicate (ntmps-(#[pt R 0]:Array Value).size) undef,defers:=[] }:Act).get 0=pt R 0:=by rw[b9 _ _ _ (by simp)];rfl
 have Kh:({ tmps:=#[pt R 0]++Array.replicate (ntmps-(#[pt R 0]:Array Value).size) undef,defers:=[] }:Act).defers=[]:=rfl
 have hsz':({ tmps:=#[pt R 0]++Array.replicate (ntmps-(#[pt R 0]:Array Value).size) undef,defers:=[] }:Act).tmps.size=ntmps:=Ii
 generalize({ tmps:=#[pt R 0]++Array.replicate (ntmps-(#[pt R 0]:Array Value).size) undef,defers:=[] }:Act)=a at Jp Kh hsz' ⊢
 have Ua:=hR.lt
 unfold cRdTags
 refine az (aq (cZ (hz w) (wpList_nil ?_)))
 refine az (aq (cZ (hz _) (wpList_nil ?_)))
 have KN:ac (fun _=>False) w ((w.alloc (.cells (Value.agg #[.map none]).cells g.tTags (0,0))).alloc (.cells (Value.agg #[.map none]).cells g.tTags (0,0))):=(ac.alloc _ _ _).trans (ac.alloc _ _ _)
 have IK:((w.alloc (.cells (Value.agg #[.map none]).cells g.tTags (0,0))).alloc (.cells (Value.agg #[.map none]).cells g.tTags (0,0))).heap[w.heap.size]?=some (.cells #[.map none] g.tTags (0,0)):=by rw[bu (by simp)];exact heap_alloc_new _ _
 have LL:((w.alloc (.cells (Value.agg #[.map none]).cells g.tTags (0,0))).alloc (.cells (Value.agg #[.map none]).cells g.tTags (0,0))).heap[w.heap.size+1]?=some (.cells #[.map none] g.tTags (0,0)):=by
  have:=heap_alloc_new (w.alloc (.cells (Value.agg #[.map none]).cells g.tTags (0,0))) (.cells (Value.agg #[.map none]).cells g.tTags (0,0))
  rw[show(w.alloc (.cells (Value.agg #[.map none]).cells g.tTags (0,0))).heap.size=w.heap.size+1 by simp]at this
  exact this
 have PA:((w.alloc (.cells (Value.agg #[.map none]).cells g.tTags (0,0))).alloc (.cells (Value.agg #[.map none]).cells g.tTags (0,0))).heap.size=w.heap.size+2:=by simp
 have UC:(w.alloc (.cells (Value.agg #[.map none]).cells g.tTags (0,0))).heap.size=w.heap.size+1:=by simp
 rw[UC]
 generalize(w.alloc (.cells (Value.agg #[.map none]).cells g.tTags (0,0))).alloc (.cells (Value.agg #[.map none]).cells g.tTags (0,0))=w2 at KN IK LL PA ⊢
 have e0:((a.put (some 2) (.pointer (some ⟨w.heap.size,0,none⟩))).put (some 3) (.pointer (some ⟨w.heap.size+1,0,none⟩))).get 0=pt R 0:=by rw[al (by omega),al (by omega)];exact Jp
 have e2:((a.put (some 2) (.pointer (some ⟨w.heap.size,0,none⟩))).put (some 3) (.pointer (some ⟨w.heap.size+1,0,none⟩))).get 2=pt w.heap.size 0:=by rw[al (by omega),ao (by omega)];rfl
 have e3:((a.put (some 2) (.pointer (some ⟨w.heap.size,0,none⟩))).put (some 3) (.pointer (some ⟨w.heap.size+1,0,none⟩))).get 3=pt (w.heap.size+1) 0:=by rw[ao (by simp only[ab];omega)];rfl
 have es:((a.put (some 2) (.pointer (some ⟨w.heap.size,0,none⟩))).put (some 3) (.pointer (some ⟨w.heap.size+1,0,none⟩))).tmps.size=ntmps:=by simp only[ab];exact hsz'
 have ed:((a.put (some 2) (.pointer (some ⟨w.heap.size,0,none⟩))).put (some 3) (.pointer (some ⟨w.heap.size+1,0,none⟩))).defers=[]:=by simp only[aj];exact Kh
 generalize(a.put (some 2) (.pointer (some ⟨w.heap.size,0,none⟩))).put (some 3) (.pointer (some ⟨w.heap.size+1,0,none⟩))=a2 at e0 e2 e3 es ed ⊢
 subst hT
 have Id:=jA r
 have JD:cy w2 g.tR S R r:=hR.keep KN id id
 generalize MV:fz (b5 r).1 [] (b5 r).2=fin
 have hkA':ac (·=R) w w2:=KN.mono fun _ _ h=>h.elim
 refine az ?_
 rw[aO]
 refine .seq (R:=Rt (fun a' w'=>TI g S R w.heap.size (w.heap.size+1) ntmps w fin (b5 r).1 a' w') fun _ _=>False) (.reg ?_) (fun a1 w1 hI=>?_) (fun e a w he hq=>by cases e<;>first|exact absurd rfl he|exact hq|exact hq.elim)
 ·refine ah ?_
  rw[aa,e0]
  refine aN (vs:=#[pt R 0]) (ks.eU Lo) (by simp[aa,ao (show 7<a2.tmps.size by omega)]) (ks.cU Lo w2 S R r JD hRS) fun e w3 hR3=>⟨_,hR3.1,?_⟩
  refine ak (wpList_nil ?_)
  have Il:=hR3.2.2
  refine⟨?_,?_,?_,?_,?_,?_,hkA'.trans Il,?_,[],(b5 r).2,.map none,MV,hR3.2.1,?_,.inl rfl,fun X _ _=>.inl ⟨rfl,rfl⟩⟩
  ·rw[al (by omega),al (by omega),al (by omega)];exact e0
  ·rw[al (by omega),al (by omega),al (by omega)];exact e2
  ·rw[al (by omega),al (by omega),al (by omega)];exact e3
  ·rw[ao (by simp only[ab];omega),aa,ao (by simp only[ab];omega)]
  ·simp only[ab];exact es
  ·simp only[aj];exact ed
  ·rw[Il.block _ (by omega) (by omega)];exact IK
  ·rw[Il.block _ (by omega) (by omega)];exact LL
 ·refine vf kt ks Lo Kv rfl Rq Jr rfl rfl hS Ua hRS Iv Id hI fun a3 w3 h3=>?_
  obtain⟨t,r',mm,Pk,IT,M1,_,IW⟩:=h3.ex
  have IJ:=h3.size
  have P1:=h3.keeps.size
  refine az (aq ?_)
  have MZ:∀ j v,[mm][j]?=some v->w3.cell? ⟨w.heap.size+1,0+j,none⟩=some v:=by
   intro j v hj
   cases j with
   | zero=>simp at hj;subst hj;simp[World.cell?,M1]
   | succ j=>simp at hj
  refine eC (b:=w.heap.size+1) (o:=0) (cs:=[mm]) (by rw[aa];exact h3.g3) (hV.agg w3) (hV.size w3) MZ ?_
  refine bm (g:=w.heap.size) (o:=0) (cur:=#[.map none]) (t:=g.tTags) (v:=.agg #[mm]) (vs:=[mm]) (by rw[aa,al (by omega)];exact h3.g2) (by rw[aa,ao (by omega)]) rfl (hV.size w3) h3.b2 (by simp) ?_ (wpList_nil ?_)
  ·intro u hu
   simp at hu
   subst hu
   rcases IW (fun _=>False) (fun _ h=>h.elim) id with⟨rfl,_⟩|⟨q,rfl,_⟩<;>rfl
  ·refine az (.ret ?_)
   have OK:(w3.setRow w.heap.size (aD #[.map none] 0 [mm])).heap[w.heap.size]?=some (.cells (aD #[.map none] 0 [mm]) g.tTags (0,0)):=setRow_heap _ _ _ _ _ _ h3.b2
   have It:ac (·=w.heap.size) w3 (w3.setRow w.heap.size (aD #[.map none] 0 [mm])):=ac.setRow _ _ _ _ rfl
   refine⟨by simp only[aj];exact h3.defers,⟨w.heap.size,0,none⟩,.agg #[mm],by rw[al (by omega)];exact h3.g2,?_,mm,rfl,?_,?_,?_⟩
   ·have hl:=m9 (P:=P) hV OK
    exact hl
   ·rw[<- Pk]at *
    exact IT.keep It (by omega) (by omega)
   ·refine⟨It.os.trans h3.keeps.os,It.tape.trans h3.keeps.tape,It.output.trans h3.keeps.output,by have:=It.size;omega,fun i hi hx=>?_⟩
    rw[It.block i (by omega) (by omega),h3.keeps.block i hi hx]
   ·intro X hX hXS
    have:=(IW (fun k=>X k \/ k=w.heap.size) (fun k hk=>by rcases hk with hk|hk;have:=hX k hk;omega;omega) (fun hk=>by rcases hk with hk|hk;exact hXS hk;omega)).keep (It.mono fun _ _ h=>.inr h)
    rw[<- Pk]
    exact this.mono fun _ _ h=>.inl h
end
end Go.Proofs.YtpoeajgpacfpoaaGreatDoor.Kx