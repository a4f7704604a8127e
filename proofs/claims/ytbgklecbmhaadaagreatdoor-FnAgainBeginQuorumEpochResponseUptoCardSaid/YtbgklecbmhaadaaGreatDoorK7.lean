/-
  PLAIN LAWS AND CONTRACTS of messages, part 7.
-/
import Derived.Test.YtbgklecbmhaadaaGreatDoorK6
import Derived.KernelRfl

namespace Go.Proofs.YtbgklecbmhaadaaGreatDoor.Kx
open Go
section
variable {P:Program} {g:G} {K:Kn} {T:Nat}
theorem iL (hm:P.follows .mixedOrders=true){f ntmps n0:Nat}{l:List GC}{y:Value}{w:World}{RR:Ending->World->Prop}(hfn:FnIs P f ntmps [2] (gS l n0).1)(G8:1<=ntmps)
  (h:∀ a,a.get 0=y->a.tmps.size=ntmps->a.defers=[]->LW P l n0 (Rt (fun _ _=>False) (fun a' w'=>a'.defers=[]/\RR (.returned (a'.get 2)) w')) a w):Calls P f #[y] w RR:=by
 refine hfn.calls hm (by simp) ?_
 have:=h { tmps:=#[y]++Array.replicate (ntmps-(#[y]:Array Value).size) undef,defers:=[] } (by rw[bX _ _ _ (by simp)];rfl) (cH #[y] ntmps G8) rfl
 exact mM (bm this) (fun _ _ h=>h.elim) (fun a w h=>⟨h.1,h.2⟩)
theorem gh {x n:Nat}{a a':Act}{v:Value}(hp:Pv x 0 0 n a a')(h:a.get 0=v)(hx:0≠x)(hn:0<n):a'.get 0=v:=(hp.get 0 hx (.inr ⟨Nat.le_refl _,hn⟩)).trans h
theorem lu {r:RS}{k:Nat}(hk:k=2 \/ k=4):-2147483648<=(rI k r).1/\(rI k r).1<2147483648:=by
 by_cases Gq:r.src.length<k
 ·rw[rC Gq]
  rcases hk with rfl|rfl<;>simp[j8]
 ·have h:=jh (show k<=r.src.length by omega)
  rw[uU (show k<=r.src.length by omega)]
  rcases hk with rfl|rfl
  ·simp only[j8];split<;>rename_i h2<;>simp at h h2 ⊢<;>omega
  ·simp only[j8];split<;>rename_i h2<;>simp at h h2 ⊢<;>omega
theorem rdOk_str (kt:KT P g K)(ks:KSub P g K T)(RH:bL (g.rd .i16)=true)(J2:bL g.span=true){f ntmps:Nat}(hfn:FnIs P f ntmps [2] (cStr g K))(G8:11<=ntmps):RdOk P T .str f:=by
 refine⟨hfn.ent,fun w S R r hR hRS=>iL kt.mixed hfn (by omega) fun a h0 hs hd=>?_⟩
 refine ad (dH (x:=2) (m:=0) (k0:=0) (.inl rfl) (by omega) fun a1 Gk _=>?_)
 have Gu:=Gk.size
 rw[show(aU 2 (.string ⟨#[]⟩) 4).2=4 from rfl]
 refine ad (uY (r':=(rI 2 r).2) (ks.e16 RH) (ks.c16 RH w S R r hR hRS) (gh Gk h0 (by omega) (by omega)) (by omega) (by omega) fun a2 w2 Gm G2 GJ Gs=>?_)
 have G9:=Gm.size
 rw[show(q3 (g.rd .i16) 4).2=6 from rfl]
 refine ad (au (ni ks J2 (.inl rfl) kt.dI16 kt.dInt (lu (.inl rfl)) (gh Gm (gh Gk h0 (by omega) (by omega)) (by omega) (by omega)) G2 GJ hRS (by omega) (by omega) fun a3 w3 v Gt GI HA Gx LA=>?_))
 have Hh:=Gt.size
 refine mf kt ks (by rw[aa];exact GI) LA (aj (wpList_nil (ad (.ret ⟨?_,?_⟩))))
 ·simp only[ai];rw[Gt.defers,Gm.defers,Gk.defers];exact hd
 ·rw[am (by simp only[ab];omega),aa,am (by omega)]
  have Gp:=rq (rI 2 r).1 GJ
  exact⟨_,rfl,HA,Gs.trans Gx,fun X _ _=>⟨_,rfl,rfl,Gp⟩⟩
theorem tW (_kt:KT P g K)(ks:KSub P g K T)(Kh:bL g.uv=true){w:World}{S R n:Nat}{r:RS}{a:Act}{KK:Act->World->Prop}{Q:Exit->Act->World->Prop}{A B:Nat}{k:IntKind}(hR:cQ w T S R r)(hRS:S≠R)(hA:P.underlying A=some (.int .u32))(hB:P.underlying B=some (.int k))(h0:a.get 0=pt R 0)(hn:n+4<=a.tmps.size)(Po:3<n)
  (h:∀ a' w',Pv 3 0 0 n a a'->a'.get 3=.int k (k.wrap (k.wrap ((bD r).1:Int)-1))->cQ w' T S R (bD r).2->ac (·=R) w w'->KK a' w'):aQ P (nW g A B k n).1 (Exit.then KK Q) a w:=by
 refine au (ag ?_)
 rw[aa,h0]
 refine aR (vs:=#[pt R 0]) (ks.eU Kh) (by simp[aa,am (show n<a.tmps.size by omega)]) (ks.cU Kh w S R r hR hRS) fun e w' HP=>⟨_,HP.1,?_⟩
 refine aT (k:=.u32) (k':=k) (by rw[aa,am (by simp only[ab];omega)]) hA hB ?_
 refine cE (k:=k) (m:=k.wrap ((bD r).1:Int)) (n:=1) (v:=.int k (k.wrap (k.wrap ((bD r).1:Int)-1))) (by rw[aa,am (by simp only[ab];omega)]) rfl (by simp) (by simp[binOp,Op.intArith]) (aj (wpList_nil ?_))
 rw[aa,am (by simp only[ab];omega)]
 exact h _ w' ((((((Pv.refl _ _ _ _ _).put _ (by omega)).put _ (by omega)).put _ (by omega)).put _ (by omega)).put _ (by omega)) (am (by simp only[ab];omega)) HP.2.1 HP.2.2
theorem xC (r:RS):IntKind.i64.wrap (IntKind.i64.wrap ((bD r).1:Int)-1)=((bD r).1:Int)-1:=by
 have h:=jI r
 simp[IntKind.wrap,IntKind.bits,IntKind.signed]
 omega
theorem Cl (r:RS):IntKind.i32.wrap (IntKind.i32.wrap ((bD r).1:Int)-1)=di (di (bD r).1-1):=by
 have hw:∀ x:Int,IntKind.i32.wrap x=di x:=by
  intro x
  simp[IntKind.wrap,IntKind.bits,IntKind.signed,di]
  split<;>omega
 rw[hw,hw]
theorem FA {w:World}{n TT:Nat}{k:IntKind}{x:Int}{z:Value}{a:Act}{KK E:Act->World->Prop}(h3:a.get 3=.int k x)(hn:n+2<=a.tmps.size)(Po:3<n)
  (GP:x<0->∀ a',a'.defers=a.defers->a'.get 2=z->E a' w) (H1:¬ x<0->∀ a',Pv n 0 0 n a a'->KK a' w):aQ P (De TT k z n).1 (Rt KK E) a w:=by
 have key:∀ (b:Bool) (K':Act->World->Prop) (Q':Exit->Act->World->Prop),b=decide (x<0)->(∀ a',a'.eval (tm (n+1))=.bool b->Pv n 0 0 n a a'->K' a' w) ->
   wpList P [mk (some n) (.move (tm 3)),mk (some (n+1)) (.binOp .lss TT (tm n) (ki k 0) 0)].toArray (Exit.then K' Q') [mk (some n) (.move (tm 3)),mk (some (n+1)) (.binOp .lss TT (tm n) (ki k 0) 0)] a w:=by
  intro b K' Q' hb hK
  refine ag ?_
  rw[aa,h3]
  refine bt (b:=b) (p:=x) (q:=0) (k:=k) (by rw[aa,am (by omega)]) rfl (.inr (.inr (.inl ⟨rfl,hb⟩))) (wpList_nil (hK _ ?_ (((Pv.refl _ _ _ _ _).put _ (by omega)).put _ (by omega))))
  rw[aa,am (by simp only[ab];omega)]
 by_cases hx:x<0
 ·refine dt (key true _ _ (by simp[hx]) fun a' he hp=>⟨he,?_⟩)
  have hs:=hp.size
  exact bm (ad (dH (x:=2) (m:=0) (k0:=0) (.inl rfl) (by omega) fun a2 Gm G2=>ad (.ret (GP hx a2 (Gm.defers.trans hp.defers) G2))))
 ·exact dg (key false _ _ (by simp;omega) fun a' he hp=>⟨he,.skip (H1 hx a' hp)⟩)
theorem BW (kt:KT P g K){w:World}{n TT:Nat}{k:IntKind}{x:Int}{a:Act}{KK E:Act->World->Prop}(h3:a.get 3=.int k x)(hn:n+3<=a.tmps.size)(Po:3<n)
  (GP:x=-1->∀ a',a'.defers=a.defers->a'.get 2=.slice (some ⟨w.heap.size,0,none⟩) 0 0->E a' (w.alloc (.cells #[] K.tU8 (0,0)))) (H1:¬ x=-1->∀ a',Pv n 0 0 n a a'->KK a' w):aQ P (z1 K TT k n).1 (Rt KK E) a w:=by
 have key:∀ (b:Bool) (K':Act->World->Prop) (Q':Exit->Act->World->Prop),b=decide (x=-1)->(∀ a',a'.eval (tm (n+1))=.bool b->Pv n 0 0 n a a'->K' a' w) ->
   wpList P [mk (some n) (.move (tm 3)),mk (some (n+1)) (.binOp .eql TT (tm n) (ki k (-1)) 0)].toArray (Exit.then K' Q') [mk (some n) (.move (tm 3)),mk (some (n+1)) (.binOp .eql TT (tm n) (ki k (-1)) 0)] a w:=by
  intro b K' Q' hb hK
  refine ag ?_
  rw[aa,h3]
  refine bt (b:=b) (p:=x) (q:=-1) (k:=k) (by rw[aa,am (by omega)]) rfl (.inr (.inr (.inr (.inr (.inl ⟨rfl,hb⟩))))) (wpList_nil (hK _ ?_ (((Pv.refl _ _ _ _ _).put _ (by omega)).put _ (by omega))))
  rw[aa,am (by simp only[ab];omega)]
 by_cases hx:x=-1
 ·refine dt (key true _ _ (by simp[hx]) fun a' he hp=>⟨he,?_⟩)
  have hs:=hp.size
  refine bm (ad (au (j0 kt.sl kt.u8.size (aj (wpList_nil (ad (.ret (GP hx _ ?_ ?_))))))))
  ·simp only[ai];exact hp.defers
  ·rw[am (by simp only[ab];omega),aa,am (by omega)]
 ·exact dg (key false _ _ (by simp[hx]) fun a' he hp=>⟨he,.skip (H1 hx a' hp)⟩)
theorem rdOk_cstr (kt:KT P g K)(ks:KSub P g K T)(Kh:bL g.uv=true)(J2:bL g.span=true){f ntmps:Nat}(hfn:FnIs P f ntmps [2] (cCStr g K))(G8:12<=ntmps):RdOk P T .cstr f:=by
 refine⟨hfn.ent,fun w S R r hR hRS=>iL kt.mixed hfn (by omega) fun a h0 hs hd=>?_⟩
 refine ad (dH (x:=2) (m:=0) (k0:=0) (.inl rfl) (by omega) fun a1 Gk _=>?_)
 have Gu:=Gk.size
 rw[show(aU 2 (.string ⟨#[]⟩) 4).2=4 from rfl]
 refine ad (tW kt ks Kh hR hRS kt.dU32 kt.dInt (gh Gk h0 (by omega) (by omega)) (by omega) (by omega) fun a2 w2 Gm G2 GJ Gs=>?_)
 rw[xC]at G2
 have G9:=Gm.size
 rw[show(nW g K.tU32 K.tInt .i64 4).2=8 from rfl]
 refine ad (au (qS ks J2 (gh Gm (gh Gk h0 (by omega) (by omega)) (by omega) (by omega)) G2 GJ hRS (by omega) (by omega) fun a3 w3 v Gt GI HA Gx LA=>?_))
 have Hh:=Gt.size
 refine mf kt ks (by rw[aa];exact GI) LA (aj (wpList_nil (ad (.ret ⟨?_,?_⟩))))
 ·simp only[ai];rw[Gt.defers,Gm.defers,Gk.defers];exact hd
 ·rw[am (by simp only[ab];omega),aa,am (by omega)]
  have Gp:=rq ((bD r).1-1) GJ
  exact⟨_,rfl,HA,Gs.trans Gx,fun X _ _=>⟨_,rfl,rfl,Gp⟩⟩
end
def nX (K:Kn):GC:=ej 7 8 (fun n=>iW K 0 n++[bi (some (n+4)) .len [tm (n+3)] [K.tSl] K.tInt,mk (some (n+5)) (.move (tm 3)),mk (some (n+6)) (.convert K.tI32 K.tInt (tm (n+5))),mk (some (n+7)) (.binOp .lss K.tInt (tm (n+4)) (tm (n+6)) 0)]) (rS K (.int .i32 0)) b6
def cLen (g:G)(K:Kn):Code:=(gS [aU 2 (.int .i32 0),q3 (g.rd .i32),nX K,bB 3 2,aY .ret] 4).1
def cCLen (g:G)(K:Kn):Code:=(gS [aU 2 (.int .i32 0),nW g K.tU32 K.tI32 .i32,nX K,bB 3 2,aY .ret] 4).1
section
variable {P:Program} {g:G} {K:Kn} {T:Nat}
theorem CC (kt:KT P g K)(ks:KSub P g K T)(KA:bL (g.rd .i32)=true)(J2:bL g.span=true){f ntmps:Nat}(hfn:FnIs P f ntmps [2] (Dj g K))(G8:13<=ntmps):RdOk P T .bytes f:=by
 refine⟨hfn.ent,fun w S R r hR hRS=>iL kt.mixed hfn (by omega) fun a h0 hs hd=>?_⟩
 refine ad (dH (x:=2) (m:=0) (k0:=0) (.inl rfl) (by omega) fun a1 Gk _=>?_)
 have Gu:=Gk.size
 rw[show(aU 2 (.slice none 0 0) 4).2=4 from rfl]
 refine ad (uY (r':=(rI 4 r).2) (ks.e32 KA) (ks.c32 KA w S R r hR hRS) (gh Gk h0 (by omega) (by omega)) (by omega) (by omega) fun a2 w2 Gm G2 GJ Gs=>?_)
 have G9:=Gm.size
 rw[show(q3 (g.rd .i32) 4).2=6 from rfl]
 have H7:a2.defers=[]:=by rw[Gm.defers,Gk.defers];exact hd
 refine ad ?_
 rw[aV]
 refine BW kt G2 (by omega) (by omega) (fun hx a' hd' GA=>⟨hd'.trans H7,?_⟩) (fun hx a3 Gt=>?_)
 ·rw[GA]
  have GF:PF.run .bytes r=(.s [],(rI 4 r).2):=by simp[PF.run,hx]
  rw[GF]
  have JG:ac (fun _=>False) w2 (w2.alloc (.cells #[] K.tU8 (0,0))):=ac.alloc _ _ _
  have G0:=Gs.size
  refine⟨_,rfl,GJ.keep JG id id,Gs.trans (JG.mono fun _ _ h=>h.elim),fun X hX hS=>.inr ⟨[],w2.heap.size,0,0,rfl,fun h=>?_,by simp,Nat.le_refl _,by simp,fun i x hi=>by simp at hi,rfl⟩⟩
  have:=hX _ h
  omega
 ·have Hh:=Gt.size
  have GF:PF.run .bytes r=b9 (rI 4 r).1 (rI 4 r).2:=by simp[PF.run,hx]
  rw[GF]
  rw[show(z1 K K.tI32 .i32 6).2=9 from rfl]
  have Pp:a3.get 0=pt R 0:=gh Gt (gh Gm (gh Gk h0 (by omega) (by omega)) (by omega) (by omega)) (by omega) (by omega)
  refine ad (au (ni ks J2 (.inr rfl) kt.dI32 kt.dInt (lu (.inr rfl)) Pp ((Gt.get 3 (by omega) (.inr ⟨by omega,by omega⟩)).trans G2) GJ hRS (by omega) (by omega) fun a4 w4 v GD Ht H0 GH M6=>aj (wpList_nil (ad (.ret ⟨?_,?_⟩)))))
  ·simp only[ai];rw[GD.defers,Gt.defers];exact H7
  ·rw[aa,Ht,am (by have:=GD.size;omega)]
   exact⟨v,rfl,H0,Gs.trans GH,fun X _ hS=>jq hS M6⟩
theorem B5 (kt:KT P g K)(ks:KSub P g K T)(Kh:bL g.uv=true)(J2:bL g.span=true){f ntmps:Nat}(hfn:FnIs P f ntmps [2] (Bl g K))(G8:14<=ntmps):RdOk P T .cbytes f:=by
 refine⟨hfn.ent,fun w S R r hR hRS=>iL kt.mixed hfn (by omega) fun a h0 hs hd=>?_⟩
 refine ad (dH (x:=2) (m:=0) (k0:=0) (.inl rfl) (by omega) fun a1 Gk _=>?_)
 have Gu:=Gk.size
 rw[show(aU 2 (.slice none 0 0) 4).2=4 from rfl]
 refine ad (tW kt ks Kh hR hRS kt.dU32 kt.dInt (gh Gk h0 (by omega) (by omega)) (by omega) (by omega) fun a2 w2 Gm G2 GJ Gs=>?_)
 rw[xC]at G2
 have G9:=Gm.size
 rw[show(nW g K.tU32 K.tInt .i64 4).2=8 from rfl]
 have H7:a2.defers=[]:=by rw[Gm.defers,Gk.defers];exact hd
 refine ad ?_
 rw[aV]
 refine BW kt G2 (by omega) (by omega) (fun hx a' hd' GA=>⟨hd'.trans H7,?_⟩) (fun hx a3 Gt=>?_)
 ·rw[GA]
  have GF:PF.run .cbytes r=(.s [],(bD r).2):=by simp only[PF.run,hx,if_true]
  rw[GF]
  have JG:ac (fun _=>False) w2 (w2.alloc (.cells #[] K.tU8 (0,0))):=ac.alloc _ _ _
  have G0:=Gs.size
  refine⟨_,rfl,GJ.keep JG id id,Gs.trans (JG.mono fun _ _ h=>h.elim),fun X hX hS=>.inr ⟨[],w2.heap.size,0,0,rfl,fun h=>?_,by simp,Nat.le_refl _,by simp,fun i x hi=>by simp at hi,rfl⟩⟩
  have:=hX _ h
  omega
 ·have Hh:=Gt.size
  have GF:PF.run .cbytes r=b9 ((bD r).1-1:Int) (bD r).2:=by simp only[PF.run,hx,if_false]
  rw[GF]
  rw[show(z1 K K.tInt .i64 8).2=11 from rfl]
  have Pp:a3.get 0=pt R 0:=gh Gt (gh Gm (gh Gk h0 (by omega) (by omega)) (by omega) (by omega)) (by omega) (by omega)
  refine ad (au (qS ks J2 Pp ((Gt.get 3 (by omega) (.inr ⟨by omega,by omega⟩)).trans G2) GJ hRS (by omega) (by omega) fun a4 w4 v GD Ht H0 GH M6=>aj (wpList_nil (ad (.ret ⟨?_,?_⟩)))))
  ·simp only[ai];rw[GD.defers,Gt.defers];exact H7
  ·rw[aa,Ht,am (by have:=GD.size;omega)]
   exact⟨v,rfl,H0,Gs.trans GH,fun X _ hS=>jq hS M6⟩
theorem B4 (kt:KT P g K)(ks:KSub P g K T)(KA:bL (g.rd .i32)=true)(J2:bL g.span=true){f ntmps:Nat}(hfn:FnIs P f ntmps [2] (Bk g K))(G8:14<=ntmps):RdOk P T .nbytes f:=by
 refine⟨hfn.ent,fun w S R r hR hRS=>iL kt.mixed hfn (by omega) fun a h0 hs hd=>?_⟩
 refine ad (dH (x:=2) (m:=0) (k0:=0) (.inl rfl) (by omega) fun a1 Gk _=>?_)
 have Gu:=Gk.size
 rw[show(aU 2 (.slice none 0 0) 5).2=5 from rfl]
 refine ad (uY (r':=(rI 4 r).2) (ks.e32 KA) (ks.c32 KA w S R r hR hRS) (gh Gk h0 (by omega) (by omega)) (by omega) (by omega) fun a2 w2 Gm G2 GJ Gs=>?_)
 have G9:=Gm.size
 rw[show(q3 (g.rd .i32) 5).2=7 from rfl]
 have H7:a2.defers=[]:=by rw[Gm.defers,Gk.defers];exact hd
 refine ad ?_
 rw[aV]
 refine FA G2 (by omega) (by omega) (fun hx a' hd' GA=>⟨hd'.trans H7,?_⟩) (fun hx a3 Gt=>?_)
 ·rw[GA]
  have GF:PF.run .nbytes r=(.nul,(rI 4 r).2):=by simp only[PF.run,hx,if_true]
  rw[GF]
  exact⟨_,rfl,GJ,Gs,fun X _ _=>.inl ⟨rfl,rfl⟩⟩
 ·have Hh:=Gt.size
  have GF:PF.run .nbytes r=b9 (rI 4 r).1 (rI 4 r).2:=by simp only[PF.run,hx,if_false]
  rw[GF]
  rw[show(De K.tI32 .i32 (.slice none 0 0) 7).2=9 from rfl]
  have Pp:a3.get 0=pt R 0:=gh Gt (gh Gm (gh Gk h0 (by omega) (by omega)) (by omega) (by omega)) (by omega) (by omega)
  refine ad (au (ni ks J2 (.inr rfl) kt.dI32 kt.dInt (lu (.inr rfl)) Pp ((Gt.get 3 (by omega) (.inr ⟨by omega,by omega⟩)).trans G2) GJ hRS (by omega) (by omega) fun a4 w4 v GD Ht H0 GH M6=>aj (wpList_nil ?_)))
  have IP:=GD.size
  refine ad (eH (x:=2) (m:=0) (k0:=0) (.inl rfl) (Nat.le_refl _) (by omega) (by simp only[ab,aA];omega) (by simp only[ab];omega) fun a5 HB II=>ad (.ret ⟨?_,?_⟩))
  ·rw[HB.defers];simp only[ai];rw[GD.defers,Gt.defers];exact H7
  ·rw[II,am (by omega),aa,Ht]
   exact⟨v,rfl,H0,Gs.trans GH,fun X _ hS=>jq hS M6⟩
theorem uZ (kt:KT P g K){w:World}{S R n:Nat}{r:RS}{x:Int}{a:Act}{KK E:Act->World->Prop}(h0:a.get 0=pt R 0)(h3:a.get 3=.int .i32 x)(hx:-2147483648<=x/\x<2147483648)(hR:cQ w T S R r)(hRS:S≠R)(hn:n+14<=a.tmps.size)(Po:3<n)
  (GP:(r.src.length:Int)<x->∀ a' w',a'.defers=a.defers->a'.get 2=.int .i32 0->cQ w' T S R .fail->ac (·=R) w w'->E a' w') (H1:¬ (r.src.length:Int)<x->∀ a',Pv n 0 0 n a a'->KK a' w):aQ P (nX K n).1 (Rt KK E) a w:=by
 obtain⟨v,hv⟩:=hR
 obtain⟨base,c,J5,_⟩:=hv.2.len
 have hw:IntKind.i64.wrap x=x:=by simp[IntKind.wrap,IntKind.bits,IntKind.signed];omega
 have key:∀ (b:Bool) (K':Act->World->Prop) (Q':Exit->Act->World->Prop),b=decide ((r.src.length:Int)<x)->(∀ a',a'.eval (tm (n+7))=.bool b->Pv n 0 0 n a a'->K' a' w) ->
   wpList P (iW K 0 n++[bi (some (n+4)) .len [tm (n+3)] [K.tSl] K.tInt,mk (some (n+5)) (.move (tm 3)),mk (some (n+6)) (.convert K.tI32 K.tInt (tm (n+5))),mk (some (n+7)) (.binOp .lss K.tInt (tm (n+4)) (tm (n+6)) 0)]).toArray (Exit.then K' Q')
   (iW K 0 n++[bi (some (n+4)) .len [tm (n+3)] [K.tSl] K.tInt,mk (some (n+5)) (.move (tm 3)),mk (some (n+6)) (.convert K.tI32 K.tInt (tm (n+5))),mk (some (n+7)) (.binOp .lss K.tInt (tm (n+4)) (tm (n+6)) 0)]) a w:=by
  intro b K' Q' hb hK
  refine kz kt h0 hv (by omega) fun a2 Gm G2=>?_
  have G9:=Gm.size
  have Vh:a2.get 3=.int .i32 x:=(Gm.get 3 (by omega) (.inr ⟨by omega,by omega⟩)).trans h3
  refine en (n:=r.src.length) (c:=c) (base:=base) (by rw[aa,G2,J5]) kt.sl ?_
  refine ag ?_
  rw[aa,ak (by omega),Vh]
  refine aT (k:=.i32) (k':=.i64) (by rw[aa,am (by simp only[ab];omega)]) kt.dI32 kt.dInt ?_
  rw[hw]
  refine bt (b:=b) (p:=(r.src.length:Int)) (q:=x) (k:=.i64) (by rw[aa,ak (by omega),ak (by omega),am (by omega)]) (by rw[aa,am (by simp only[ab];omega)]) (.inr (.inr (.inl ⟨rfl,hb⟩))) (wpList_nil (hK _ ?_ ((((Gm.put _ (by omega)).put _ (by omega)).put _ (by omega)).put _ (by omega))))
  rw[aa,am (by simp only[ab];omega)]
 by_cases Gq:(r.src.length:Int)<x
 ·refine dt (key true _ _ (by simp[Gq]) fun a' he hp=>⟨he,?_⟩)
  have hs:=hp.size
  exact tZ kt ((hp.get 0 (by omega) (.inr ⟨by omega,by omega⟩)).trans h0) hv hRS (by omega) (by omega) fun a3 w3 H6 GI HA Gx=>GP Gq a3 w3 (H6.trans hp.defers) GI HA Gx
 ·exact dg (key false _ _ (by simp[Gq]) fun a' he hp=>⟨he,.skip (H1 Gq a' hp)⟩)
theorem len_calls (kt:KT P g K)(ks:KSub P g K T)(KA:bL (g.rd .i32)=true){f ntmps:Nat}(hfn:FnIs P f ntmps [2] (cLen g K))(G8:21<=ntmps){w:World}{S R:Nat}{r:RS}(hR:cQ w T S R r)(hRS:S≠R) :
  Calls P f #[pt R 0] w fun e w'=>e=.returned (.int .i32 (cL false r).1)/\cQ w' T S R (cL false r).2/\ac (·=R) w w':=by
 refine iL kt.mixed hfn (by omega) fun a h0 hs hd=>?_
 refine ad (dH (x:=2) (m:=0) (k0:=0) (.inl rfl) (by omega) fun a1 Gk _=>?_)
 have Gu:=Gk.size
 rw[show(aU 2 (.int .i32 0) 4).2=4 from rfl]
 refine ad (uY (r':=(rI 4 r).2) (ks.e32 KA) (ks.c32 KA w S R r hR hRS) (gh Gk h0 (by omega) (by omega)) (by omega) (by omega) fun a2 w2 Gm G2 GJ Gs=>?_)
 have G9:=Gm.size
 rw[show(q3 (g.rd .i32) 4).2=6 from rfl]
 have H7:a2.defers=[]:=by rw[Gm.defers,Gk.defers];exact hd
 have PA:a2.get 0=pt R 0:=gh Gm (gh Gk h0 (by omega) (by omega)) (by omega) (by omega)
 refine ad ?_
 rw[aV]
 refine uZ kt PA G2 (lu (.inr rfl)) GJ hRS (by omega) (by omega) (fun Gq a' w' hd' GA Ou H5=>⟨hd'.trans H7,?_⟩) (fun Gq a3 Gt=>?_)
 ·have hr:cL false r=(0,.fail):=by simp only[cL,Bool.false_eq_true,if_false,Gq,if_true]
  rw[hr,GA]
  exact⟨rfl,Ou,Gs.trans H5⟩
 ·have hr:cL false r=rI 4 r:=by simp only[cL,Bool.false_eq_true,if_false,Gq]
  have Hh:=Gt.size
  rw[hr]
  rw[show(nX K 6).2=20 from rfl]
  refine ad (eH (x:=2) (m:=0) (k0:=0) (.inl rfl) (Nat.le_refl _) (by omega) (by omega) (by omega) fun a4 GD Ht=>ad (.ret ⟨?_,?_⟩))
  ·rw[GD.defers,Gt.defers];exact H7
  ·rw[Ht,Gt.get 3 (by omega) (.inr ⟨by omega,by omega⟩),G2]
   exact⟨rfl,GJ,Gs⟩
theorem clen_calls (kt:KT P g K)(ks:KSub P g K T)(Kh:bL g.uv=true){f ntmps:Nat}(hfn:FnIs P f ntmps [2] (cCLen g K))(G8:23<=ntmps){w:World}{S R:Nat}{r:RS}(hR:cQ w T S R r)(hRS:S≠R) :
  Calls P f #[pt R 0] w fun e w'=>e=.returned (.int .i32 (cL true r).1)/\cQ w' T S R (cL true r).2/\ac (·=R) w w':=by
 refine iL kt.mixed hfn (by omega) fun a h0 hs hd=>?_
 refine ad (dH (x:=2) (m:=0) (k0:=0) (.inl rfl) (by omega) fun a1 Gk _=>?_)
 have Gu:=Gk.size
 rw[show(aU 2 (.int .i32 0) 4).2=4 from rfl]
 refine ad (tW kt ks Kh hR hRS kt.dU32 kt.dI32 (gh Gk h0 (by omega) (by omega)) (by omega) (by omega) fun a2 w2 Gm G2 GJ Gs=>?_)
 rw[Cl]at G2
 have G9:=Gm.size
 rw[show(nW g K.tU32 K.tI32 .i32 4).2=8 from rfl]
 have H7:a2.defers=[]:=by rw[Gm.defers,Gk.defers];exact hd
 have PA:a2.get 0=pt R 0:=gh Gm (gh Gk h0 (by omega) (by omega)) (by omega) (by omega)
 have Ow:-2147483648<=di (di (bD r).1-1)/\di (di (bD r).1-1)<2147483648:=by simp only[di];omega
 refine ad ?_
 rw[aV]
 refine uZ kt PA G2 Ow GJ hRS (by omega) (by omega) (fun Gq a' w' hd' GA Ou H5=>⟨hd'.trans H7,?_⟩) (fun Gq a3 Gt=>?_)
 ·have hr:cL true r=(0,.fail):=by simp only[cL,if_true,Gq]
  rw[hr,GA]
  exact⟨rfl,Ou,Gs.trans H5⟩
 ·have hr:cL true r=(di (di (bD r).1-1),(bD r).2):=by simp only[cL,if_true,Gq,if_false]
  have Hh:=Gt.size
  rw[hr]
  rw[show(nX K 8).2=22 from rfl]
  refine ad (eH (x:=2) (m:=0) (k0:=0) (.inl rfl) (Nat.le_refl _) (by omega) (by omega) (by omega) fun a4 GD Ht=>ad (.ret ⟨?_,?_⟩))
  ·rw[GD.defers,Gt.defers];exact H7
  ·rw[Ht,Gt.get 3 (by omega) (.inr ⟨by omega,by omega⟩),G2]
   exact⟨rfl,GJ,Gs⟩
end
structure KBig (P:Program)(K:Kn):Prop where
 be:bd P K.tBE true 0
 d16:P.underlying K.tU16=some (.int .u16)
 d64:bL K.fU64=true->P.underlying K.tU64=some (.int .u64)
 dI64:bL K.fU64=true->P.underlying K.tI64=some (.int .i64)
 f16:bL K.fU16=true->FnIs P K.fU16 18 [4] (gBig K K.tU16 .u16 2)
 f32:bL K.fU32=true->FnIs P K.fU32 30 [4] (gBig K K.tU32 .u32 4)
 f64:bL K.fU64=true->FnIs P K.fU64 54 [4] (gBig K K.tU64 .u64 8)
section
variable {P:Program} {g:G} {K:Kn} {T:Nat}
theorem Dc (K:Kn)(tK:Nat):dW (jT K tK 2++[mk (some 4) (.assign (tm 17))])=List.replicate 10 false++[true]:=by kernel_rfl
theorem Db (K:Kn)(tK:Nat):dW (jT K tK 4++[mk (some 4) (.assign (tm 29))])=List.replicate 22 false++[true]:=by kernel_rfl
theorem Ca (kt:KT P g K)(kb:KBig P K)(hF:bL K.fU16=true){w:World}{S:Nat}{r:RS}{v:Value}(h:bQ w S v r)(hk:2<=r.src.length):Calls P K.fU16 #[.agg #[],v] w fun e w'=>e=.returned (.int .u16 ((cX (r.src.take 2):Nat):Int))/\ac (fun _=>False) w w':=
 pu kt (kb.f16 hF) (by omega) (.inl rfl) kb.d16 (by omega) (by simp[IntKind.bits]) kb.be ⟨_,Dc K _,rfl,rfl⟩ h hk
theorem FH (kt:KT P g K)(kb:KBig P K)(hF:bL K.fU32=true){w:World}{S:Nat}{r:RS}{v:Value}(h:bQ w S v r)(hk:4<=r.src.length):Calls P K.fU32 #[.agg #[],v] w fun e w'=>e=.returned (.int .u32 ((cX (r.src.take 4):Nat):Int))/\ac (fun _=>False) w w':=
 pu kt (kb.f32 hF) (by omega) (.inr (.inl rfl)) kt.dU32 (by omega) (by simp[IntKind.bits]) kb.be ⟨_,Db K _,rfl,rfl⟩ h hk
theorem i16_calls (kt:KT P g K)(kb:KBig P K)(hF:bL K.fU16=true){f ntmps:Nat}(hfn:FnIs P f ntmps [2] (cI16 K))(G8:32<=ntmps){w:World}{S R:Nat}{r:RS}(hR:cQ w T S R r)(hRS:S≠R) :
  Calls P f #[pt R 0] w (lI T S R 2 r w (.int .i16 0) (.int .i16 (IntKind.wrap .i16 ((cX (r.src.take 2):Nat):Int)))):=
 tV kt (kr:=7) (rv:=.int .i16 (IntKind.wrap .i16 ((cX (r.src.take 2):Nat):Int))) hfn rfl (by omega) hR hRS
  (fun hk v a K' Q' hv h0 hs h=>zw (k:=2) (kind:=.u16) kt kb.be (kb.f16 hF).ent (fun w' hv'=>Ca kt kb hF hv' hk) ⟨.i16,kb.d16,kt.dI16,rfl⟩ hv h0 (by omega) h) (fun hk a w' K' Q' h3 hs h=>tY h3 (by omega) (by omega) h)
theorem i32_calls (kt:KT P g K)(kb:KBig P K)(hF:bL K.fU32=true){f ntmps:Nat}(hfn:FnIs P f ntmps [2] (cI32 K))(G8:32<=ntmps){w:World}{S R:Nat}{r:RS}(hR:cQ w T S R r)(hRS:S≠R) :
  Calls P f #[pt R 0] w (lI T S R 4 r w (.int .i32 0) (.int .i32 (IntKind.wrap .i32 ((cX (r.src.take 4):Nat):Int)))):=
 tV kt (kr:=7) (rv:=.int .i32 (IntKind.wrap .i32 ((cX (r.src.take 4):Nat):Int))) hfn rfl (by omega) hR hRS
  (fun hk v a K' Q' hv h0 hs h=>zw (k:=4) (kind:=.u32) kt kb.be (kb.f32 hF).ent (fun w' hv'=>FH kt kb hF hv' hk) ⟨.i32,kt.dU32,kt.dI32,rfl⟩ hv h0 (by omega) h) (fun hk a w' K' Q' h3 hs h=>tY h3 (by omega) (by omega) h)
theorem vV (kt:KT P g K)(kb:KBig P K)(hF:bL K.fU16=true){f ntmps:Nat}(hfn:FnIs P f ntmps [2] (cU16 K))(G8:31<=ntmps){w:World}{S R:Nat}{r:RS}(hR:cQ w T S R r)(hRS:S≠R) :
  Calls P f #[pt R 0] w (lI T S R 2 r w (.int .u16 0) (.int .u16 ((cX (r.src.take 2):Nat):Int))):=
 tV kt (kr:=6) (rv:=.int .u16 ((cX (r.src.take 2):Nat):Int)) hfn rfl (by omega) hR hRS
  (fun hk v a K' Q' hv h0 hs h=>zw (conv:=none) (k:=2) (kind:=.u16) kt kb.be (kb.f16 hF).ent (fun w' hv'=>Ca kt kb hF hv' hk) rfl hv h0 (by omega) h) (fun hk a w' K' Q' h3 hs h=>tY h3 (by omega) (by omega) h)
theorem rdOk_i16 (kt:KT P g K)(kb:KBig P K)(hF:bL K.fU16=true){f ntmps:Nat}(hfn:FnIs P f ntmps [2] (cI16 K))(G8:32<=ntmps):RdOk P T .i16 f:=
 ⟨hfn.ent,fun w S R r hR hRS=>(i16_calls kt kb hF hfn G8 hR hRS).mono fun e w' h=>by
  obtain⟨h1,h2,h3,h4⟩:=rdOk_int (p:=.i16) (.inr (.inl ⟨rfl,rfl⟩)) rfl h
  exact⟨_,h1,h2,h3,fun X _ _=>h4 X⟩⟩
theorem rdOk_i32 (kt:KT P g K)(kb:KBig P K)(hF:bL K.fU32=true){f ntmps:Nat}(hfn:FnIs P f ntmps [2] (cI32 K))(G8:32<=ntmps):RdOk P T .i32 f:=
 ⟨hfn.ent,fun w S R r hR hRS=>(i32_calls kt kb hF hfn G8 hR hRS).mono fun e w' h=>by
  obtain⟨h1,h2,h3,h4⟩:=rdOk_int (p:=.i32) (.inr (.inr (.inl ⟨rfl,rfl⟩))) rfl h
  exact⟨_,h1,h2,h3,fun X _ _=>h4 X⟩⟩
theorem rdOk_u16 (kt:KT P g K)(kb:KBig P K)(hF:bL K.fU16=true){f ntmps:Nat}(hfn:FnIs P f ntmps [2] (cU16 K))(G8:31<=ntmps):RdOk P T .u16 f:=
 ⟨hfn.ent,fun w S R r hR hRS=>(vV kt kb hF hfn G8 hR hRS).mono fun e w' h=>by
  obtain⟨h1,h2⟩:=h
  by_cases Gq:r.src.length<2
  ·rw[if_pos Gq]at h1
   have GF:PF.run .u16 r=(.n 0,.fail):=by simp[PF.run,rU,Gq]
   rw[GF]
   exact⟨_,h1.1,h1.2,h2,fun X _ _=>⟨0,rfl,rfl,by simp[cP.fits]⟩⟩
  ·rw[if_neg Gq]at h1
   have GF:PF.run .u16 r=(.n ((cX (r.src.take 2):Nat):Int),⟨r.src.drop 2,r.bad,r.nl⟩):=by simp[PF.run,rU,Gq]
   rw[GF]
   have:=jh (show 2<=r.src.length by omega)
   exact⟨_,h1.1,h1.2,h2,fun X _ _=>⟨_,rfl,rfl,by simp only[cP.fits];omega⟩⟩⟩
def cOk (K:Kn):Code:=(gS [aU 2 (.bool false),aA 5 fun n=>[mk (some n) (.move (tm 0)),mk (some (n+1)) (.nilCheck (tm n)),mk (some (n+2)) (.fieldAddr K.tRS (tm (n+1)) 1),mk (some (n+3)) (.load K.tB (tm (n+2))),mk (some (n+4)) (.unOp .not K.tB (tm (n+3))),mk (some 2) (.assign (tm (n+4)))],aY .ret] 3).1
def cComplete (K:Kn):Code:=(gS [aU 2 .nilIface,ej 3 4 (fun n=>[mk (some n) (.move (tm 0)),mk (some (n+1)) (.nilCheck (tm n)),mk (some (n+2)) (.fieldAddr K.tRS (tm (n+1)) 1),mk (some (n+3)) (.load K.tB (tm (n+2)))])
 (gS [aA 1 fun n=>[mk (some n) (.load K.tErr (.global K.gErr)),mk (some 2) (.assign (tm n))],aY .ret]) b6,aU 2 .nilIface,aY .ret] 3).1
theorem ok_calls (kt:KT P g K){f ntmps:Nat}(hfn:FnIs P f ntmps [2] (cOk K))(G8:8<=ntmps){w:World}{S R:Nat}{r:RS}(hR:cQ w T S R r):Calls P f #[pt R 0] w fun e w'=>e=.returned (.bool (!r.bad))/\ac (fun _=>False) w w':=by
 refine hfn.calls kt.mixed (by simp) ?_
 have G0:=cH #[pt R 0] ntmps (by show 1<=ntmps;omega)
 have HS:({ tmps:=#[pt R 0]++Array.replicate (ntmps-(#[pt R 0]:Array Value).size) undef,defers:=[] }:Act).get 0=pt R 0:=by rw[bX _ _ _ (by simp)];rfl
 have IC:({ tmps:=#[pt R 0]++Array.replicate (ntmps-(#[pt R 0]:Array Value).size) undef,defers:=[] }:Act).defers=[]:=rfl
 have hsz':({ tmps:=#[pt R 0]++Array.replicate (ntmps-(#[pt R 0]:Array Value).size) undef,defers:=[] }:Act).tmps.size=ntmps:=G0
 generalize({ tmps:=#[pt R 0]++Array.replicate (ntmps-(#[pt R 0]:Array Value).size) undef,defers:=[] }:Act)=a at HS IC hsz' ⊢
 obtain⟨v,Iu,_⟩:=hR
 have hc:w.cell? ⟨R,0+1,none⟩=some (.bool r.bad):=by simp[World.cell?,Iu]
 refine bm (ad (dH (x:=2) (m:=0) (k0:=0) (.inl rfl) (by omega) fun a1 Gk Gv=>?_))
 have Gu:=Gk.size
 rw[show(aU 2 (.bool false) 3).2=3 from rfl]
 refine ad (au (ag ?_))
 rw[aa,Gk.get 0 (by omega) (.inr ⟨by omega,by omega⟩),HS]
 refine aL (by rw[aa,am (by omega)];rfl) ?_
 refine bR (by rw[aa,am (by simp only[ab];omega)]) kt.f1 ?_
 refine b5 (by rw[aa,am (by simp only[ab];omega)]) (kt.f1.var.agg _) hc ?_
 refine nk (b:=r.bad) (by rw[aa,am (by simp only[ab];omega)]) (aj (wpList_nil (ad (.ret ⟨?_,?_,ac.refl _ _⟩))))
 ·simp only[ai];rw[Gk.defers];exact IC
 ·simp only[bj]
  rw[am (by simp only[ab];omega),aa,am (by simp only[ab];omega)]
theorem complete_calls (kt:KT P g K){f ntmps:Nat}(hfn:FnIs P f ntmps [2] (cComplete K))(G8:8<=ntmps)(hE:bd P K.tErr false 1){w:World}{S R:Nat}{r:RS}(hR:cQ w T S R r)(herr:ErrAt K.gErr w) :
  Calls P f #[pt R 0] w fun e w'=>ac (fun _=>False) w w'/\∃ v,e=.returned v/\(r.bad=false->v=.nilIface)/\(r.bad=true->∃ t x,v=.iface t x):=by
 refine hfn.calls kt.mixed (by simp) ?_
 have G0:=cH #[pt R 0] ntmps (by show 1<=ntmps;omega)
 have HS:({ tmps:=#[pt R 0]++Array.replicate (ntmps-(#[pt R 0]:Array Value).size) undef,defers:=[] }:Act).get 0=pt R 0:=by rw[bX _ _ _ (by simp)];rfl
 have IC:({ tmps:=#[pt R 0]++Array.replicate (ntmps-(#[pt R 0]:Array Value).size) undef,defers:=[] }:Act).defers=[]:=rfl
 have hsz':({ tmps:=#[pt R 0]++Array.replicate (ntmps-(#[pt R 0]:Array Value).size) undef,defers:=[] }:Act).tmps.size=ntmps:=G0
 generalize({ tmps:=#[pt R 0]++Array.replicate (ntmps-(#[pt R 0]:Array Value).size) undef,defers:=[] }:Act)=a at HS IC hsz' ⊢
 obtain⟨v,Iu,_⟩:=hR
 have hc:w.cell? ⟨R,0+1,none⟩=some (.bool r.bad):=by simp[World.cell?,Iu]
 obtain⟨te,xe,MK⟩:=herr
 refine bm (ad (dH (x:=2) (m:=0) (k0:=0) (.inl rfl) (by omega) fun a1 Gk Gv=>?_))
 have Gu:=Gk.size
 rw[show(aU 2 .nilIface 3).2=3 from rfl]
 refine ad ?_
 have key:∀ (K':Act->World->Prop),(∀ a',a'.eval (tm (3+3))=.bool r.bad->Pv 3 0 0 3 a1 a'->K' a' w)->∀ Q',wpList P [mk (some 3) (.move (tm 0)),mk (some (3+1)) (.nilCheck (tm 3)),mk (some (3+2)) (.fieldAddr K.tRS (tm (3+1)) 1),mk (some (3+3)) (.load K.tB (tm (3+2)))].toArray (Exit.then K' Q')
   [mk (some 3) (.move (tm 0)),mk (some (3+1)) (.nilCheck (tm 3)),mk (some (3+2)) (.fieldAddr K.tRS (tm (3+1)) 1),mk (some (3+3)) (.load K.tB (tm (3+2)))] a1 w:=by
  intro K' hK Q'
  refine ag ?_
  rw[aa,Gk.get 0 (by omega) (.inr ⟨by omega,by omega⟩),HS]
  refine aL (by rw[aa,am (by omega)];rfl) ?_
  refine bR (by rw[aa,am (by simp only[ab];omega)]) kt.f1 ?_
  refine b5 (by rw[aa,am (by simp only[ab];omega)]) (kt.f1.var.agg _) hc (wpList_nil (hK _ ?_ ((((((Pv.refl _ _ _ _ _).put _ (by omega)).put _ (by omega)).put _ (by omega)).put _ (by omega)))))
  rw[aa,am (by simp only[ab];omega)]
 cases hb:r.bad with
 | true=>
  rw[hb]at key
  refine dt (key _ (fun a' he hp=>⟨he,?_⟩) _)
  have hs:=hp.size
  refine bm (ad (au ?_))
  have Ij:a'.eval (.global K.gErr)=.pointer (some ⟨K.gErr,0,none⟩):=rfl
  refine b5 Ij (hE.agg _) MK (aj (wpList_nil (ad (.ret ⟨?_,ac.refl _ _,.iface te xe,?_,fun h=>(by cases h),fun _=>⟨te,xe,rfl⟩⟩))))
  ·simp only[ai];rw[hp.defers,Gk.defers];exact IC
  ·simp only[bj]
   rw[am (by simp only[ab];omega),aa,am (by omega)]
 | false=>
  rw[hb]at key
  refine dg (key _ (fun a' he hp=>⟨he,.skip ?_⟩) _)
  have hs:=hp.size
  refine ad (dH (x:=2) (m:=0) (k0:=0) (.inl rfl) (by omega) fun a2 Gm G2=>ad (.ret ⟨?_,ac.refl _ _,.nilIface,?_,fun _=>rfl,fun h=>(by cases h)⟩))
  ·rw[Gm.defers,hp.defers,Gk.defers];exact IC
  ·simp only[bj];rw[G2]
end
def cSpan (K:Kn):Code:=(gS [aU 4 (.slice none 0 0),ej 10 11 (fun n=>iW K 0 n++[bi (some (n+4)) .len [tm (n+3)] [K.tSl] K.tInt,mk (some (n+5)) (.move (tm 1)),mk (some (n+6)) (.binOp .lss K.tInt (tm (n+4)) (tm (n+5)) 0),mk (some (n+7)) (.move (tm (n+6))),
  gd (n+8) (.move (tm 1)) 7 false,gd (n+9) (.binOp .lss K.tInt (tm (n+8)) (ki .i64 0) 0) 7 false,mk (some (n+10)) (.pick (tm (n+7)) (.const (.bool true)) (tm (n+9)))]) (q4 K 4 (.slice none 0 0)) b6,
 aA 7 fun n=>iW K 0 n++[mk (some (n+4)) (.move (tm 1)),mk (some (n+5)) (.move (tm 1)),mk (some (n+6)) (.slice K.tSl (tm (n+3)) none (some (tm (n+4))) (some (tm (n+5)))),mk (some 5) (.assign (tm (n+6)))],
 mq K 1,bB 5 4,aY .ret] 6).1
section
variable {P:Program} {g:G} {K:Kn} {T S R:Nat} {r:RS} {n:Nat} {KK:Act->World->Prop} {Q:Exit->Act->World->Prop} {a:Act} {w:World}
def jb (v:Value)(k:Nat):Value:=
 match v with
 | .slice base _ _=>.slice (if k=0 then base else base.map (·.add 0)) k k
 | v=>v
theorem bQ.cap {v:Value}{k:Nat}(h:bQ w S v r)(hk:k<=r.src.length):bQ w S (jb v k) ⟨(if r.nl then V.nul else .s (r.src.take k)).octets,false,(if r.nl then V.nul else .s (r.src.take k)).isNul⟩:=by
 rcases h with⟨h1,h2,h3⟩|⟨o,c,h1,h2,h3,h4,h5,h6⟩
 ·have:k=0:=by rw[h2]at hk;simpa using hk
  subst this
  rw[h3,h1]
  exact .inl ⟨rfl,rfl,rfl⟩
 ·subst h1
  rw[h2]
  have hm:min k r.src.length=k:=Nat.min_eq_left hk
  refine .inr ⟨o,k,?_,rfl,?_,by omega,h5,fun i x hi=>?_⟩
  ·by_cases h0:k=0
   ·simp[jb,h0,V.octets]
   ·simp[jb,h0,V.octets,hm,Addr.add]
  ·simp[V.octets];omega
  ·simp only[Bool.false_eq_true,if_false,V.octets,List.getElem?_take]at hi
   split at hi
   ·exact h6 i x hi
   ·cases hi
theorem s6 (kt:KT P g K){ops:Array Oper}{l:List Oper}{d:Option Nat}{y hi mx:Operand}{v:Value}{k:Nat}(hy:a.eval y=v)(hv:bQ w S v r)(hhi:a.eval hi=.int .i64 k)(O4:a.eval mx=.int .i64 k)(hk:k<=r.src.length)
  (h:wpList P ops Q l (a.put d (jb v k)) w):wpList P ops Q (mk d (.slice K.tSl y none (some hi) (some mx))::l) a w:=by
 refine aD ?_ h
 obtain⟨base,c,J5,P7,Lk,IK,hb⟩:=hv.len
 subst J5
 have hs:=kt.u8.size w
 have Gy:k<=c:=by omega
 have Hk:¬ ((k:Int)<0):=by omega
 simp[execOp,mk,hy,hhi,O4,Instr.sliceAt,Instr.slice,run_underlying kt.sl,Instr.sliceBounds,Instr.sliceBound,asIntOf,hs,Gy,jb]
theorem zx (kt:KT P g K){v:Value}{k l:Nat}(h0:a.get 0=pt R 0)(hl:a.get l=.int .i64 k)(hR:Br w T S R v r)(hk:k<=r.src.length)(hRS:S≠R)(hn:n+9<=a.tmps.size)(h0n:0<n)(hln:l<n)
  (h:∀ a',Pv n 0 0 n a a'->cQ (w.setRow R #[gD v k,.bool r.bad]) T S R ⟨r.src.drop k,r.bad,r.nl⟩->KK a' (w.setRow R #[gD v k,.bool r.bad])):aQ P (mq K l n).1 (Exit.then KK Q) a w:=by
 refine au (ag ?_)
 rw[aa,h0]
 refine kz kt (v:=v) (by rw[ak (by omega)];exact h0) hR (by simp only[ab];omega) fun a1 Gk Gv=>?_
 have Gu:=Gk.size
 rw[ab]at Gu
 have MG:a1.get n=pt R 0:=by rw[Gk.get n (by omega) (.inr ⟨by omega,by omega⟩),am (by omega)]
 have LJ:a1.get l=.int .i64 k:=by rw[Gk.get l (by omega) (.inr ⟨by omega,by omega⟩),ak (by omega)];exact hl
 have IG:Pv n 0 0 n a a1:=((Pv.refl n 0 0 n a).put (pt R 0) (by omega)).trans ⟨Gk.size,Gk.defers,fun s hs hh=>Gk.get s (by omega) (.inr ⟨by omega,by omega⟩)⟩
 refine ag ?_
 rw[aa,LJ]
 refine nj kt (k:=k) (by rw[aa,ak (by omega)];exact Gv) hR.2 (by rw[aa,am (by omega)]) hk ?_
 refine aL (by rw[aa,ak (by omega),ak (by omega),MG];rfl) ?_
 refine bR (by rw[aa,am (by simp only[ab];omega)]) kt.f0 ?_
 obtain⟨Vl,Vj⟩:=jK (hR.2.cut hk)
 refine bw (cur:=#[v,.bool r.bad]) (t:=T) (v:=gD v k) (vs:=[gD v k]) (by rw[aa,am (by simp only[ab];omega)]) (by rw[aa,ak (by omega),ak (by omega),am (by simp only[ab];omega)]) (by rw[Vj]) (kt.f0.var.size _) hR.1 (by simp)
  (fun u hu=>by simp at hu;rw[hu];exact Vl) (wpList_nil ?_)
 have e1:aI #[v,.bool r.bad] (0+0) [gD v k]=#[gD v k,.bool r.bad]:=by simp[aI]
 rw[e1]
 refine h _ ((((IG.put _ (by omega)).put _ (by omega)).put _ (by omega)).put _ (by omega)) ⟨_,setRow_heap _ _ _ _ _ _ hR.1,(hR.2.cut hk).keep (ac.setRow (fun k=>k=R) _ _ _ rfl) hRS⟩
theorem span_calls (kt:KT P g K){f ntmps:Nat}(hfn:FnIs P f ntmps [4] (cSpan K))(G8:40<=ntmps){k:Int}(hR:cQ w T S R r)(hRS:S≠R):Calls P f #[pt R 0,.int .i64 k] w fun e w'=>
  ∃ v,e=.returned v/\cQ w' T S R (b9 k r).2/\ac (·=R) w w'/\bQ w' S v ⟨(b9 k r).1.octets,false,(b9 k r).1.isNul⟩:=by
 refine hfn.calls kt.mixed (by simp) ?_
 have G0:=cH #[pt R 0,.int .i64 k] ntmps (by show 2<=ntmps;omega)
 have HS:({ tmps:=#[pt R 0,.int .i64 k]++Array.replicate (ntmps-(#[pt R 0,.int .i64 k]:Array Value).size) undef,defers:=[] }:Act).get 0=pt R 0:=by rw[bX _ _ _ (by simp)];rfl
 have Gv:({ tmps:=#[pt R 0,.int .i64 k]++Array.replicate (ntmps-(#[pt R 0,.int .i64 k]:Array Value).size) undef,defers:=[] }:Act).get 1=.int .i64 k:=by rw[bX _ _ _ (by simp)];rfl
 have IC:({ tmps:=#[pt R 0,.int .i64 k]++Array.replicate (ntmps-(#[pt R 0,.int .i64 k]:Array Value).size) undef,defers:=[] }:Act).defers=[]:=rfl
 have hsz':({ tmps:=#[pt R 0,.int .i64 k]++Array.replicate (ntmps-(#[pt R 0,.int .i64 k]:Array Value).size) undef,defers:=[] }:Act).tmps.size=ntmps:=G0
 generalize({ tmps:=#[pt R 0,.int .i64 k]++Array.replicate (ntmps-(#[pt R 0,.int .i64 k]:Array Value).size) undef,defers:=[] }:Act)=a at HS Gv IC hsz' ⊢
 obtain⟨v,hv⟩:=hR
 refine bm (ad (dH (x:=4) (m:=0) (k0:=0) (.inl rfl) (by omega) fun a1 Gk hg41=>?_))
 have Gu:=Gk.size
 have Ip:∀ s,s<4->a1.get s=a.get s:=fun s h=>Gk.get s (by omega) (.inr ⟨by omega,by omega⟩)
 rw[show(aU 4 (.slice none 0 0) 6).2=6 from rfl]
 obtain⟨base,c,J5,P7,Lk,IK,hb⟩:=hv.2.len
 have G3:∀ (b:Bool) (K':Act->World->Prop) (Q':Exit->Act->World->Prop),b=(decide ((r.src.length:Int)<k) || decide (k<0))->(∀ a',a'.eval (tm (6+10))=.bool b->Pv 6 0 0 6 a1 a'->K' a' w) ->
   wpList P (iW K 0 6++[bi (some (6+4)) .len [tm (6+3)] [K.tSl] K.tInt,mk (some (6+5)) (.move (tm 1)),mk (some (6+6)) (.binOp .lss K.tInt (tm (6+4)) (tm (6+5)) 0),mk (some (6+7)) (.move (tm (6+6))),
    gd (6+8) (.move (tm 1)) 7 false,gd (6+9) (.binOp .lss K.tInt (tm (6+8)) (ki .i64 0) 0) 7 false,mk (some (6+10)) (.pick (tm (6+7)) (.const (.bool true)) (tm (6+9)))]).toArray (Exit.then K' Q')
   (iW K 0 6++[bi (some (6+4)) .len [tm (6+3)] [K.tSl] K.tInt,mk (some (6+5)) (.move (tm 1)),mk (some (6+6)) (.binOp .lss K.tInt (tm (6+4)) (tm (6+5)) 0),mk (some (6+7)) (.move (tm (6+6))),
    gd (6+8) (.move (tm 1)) 7 false,gd (6+9) (.binOp .lss K.tInt (tm (6+8)) (ki .i64 0) 0) 7 false,mk (some (6+10)) (.pick (tm (6+7)) (.const (.bool true)) (tm (6+9)))]) a1 w:=by
  intro b K' Q' hb hK
  refine kz kt ((Ip 0 (by omega)).trans HS) hv (by omega) fun a2 Gm G2=>?_
  have G9:=Gm.size
  have Mm:a2.get 1=.int .i64 k:=by rw[Gm.get 1 (by omega) (.inr ⟨by omega,by omega⟩),Ip 1 (by omega)];exact Gv
  refine en (n:=r.src.length) (c:=c) (base:=base) (by rw[aa,G2,J5]) kt.sl ?_
  refine ag ?_
  rw[aa,ak (by omega),Mm]
  refine bt (b:=decide ((r.src.length:Int)<k)) (p:=(r.src.length:Int)) (q:=k) (k:=.i64) (by rw[aa,ak (by omega),am (by omega)]) (by rw[aa,am (by simp only[ab];omega)]) (.inr (.inr (.inl ⟨rfl,rfl⟩))) ?_
  refine ag ?_
  rw[aa,am (by simp only[ab];omega)]
  have Gt:Pv 6 0 0 6 a1 ((((a2.put (some (6+4)) (.int .i64 (r.src.length:Int))).put (some (6+5)) (.int .i64 k)).put (some (6+6)) (.bool (decide ((r.src.length:Int)<k)))).put (some (6+7)) (.bool (decide ((r.src.length:Int)<k)))):=
   (((Gm.put _ (by omega)).put _ (by omega)).put _ (by omega)).put _ (by omega)
  have Jt:((((a2.put (some (6+4)) (.int .i64 (r.src.length:Int))).put (some (6+5)) (.int .i64 k)).put (some (6+6)) (.bool (decide ((r.src.length:Int)<k)))).put (some (6+7)) (.bool (decide ((r.src.length:Int)<k)))).get (6+7)=.bool (decide ((r.src.length:Int)<k)):=am (by simp only[ab];omega)
  generalize((((a2.put (some (6+4)) (.int .i64 (r.src.length:Int))).put (some (6+5)) (.int .i64 k)).put (some (6+6)) (.bool (decide ((r.src.length:Int)<k)))).put (some (6+7)) (.bool (decide ((r.src.length:Int)<k))))=A at Gt Jt ⊢
  have hsA:=Gt.size
  have Lx:A.get 1=.int .i64 k:=by rw[Gt.get 1 (by omega) (.inr ⟨by omega,by omega⟩),Ip 1 (by omega)];exact Gv
  have hy:∀ (B:Act),B.tmps.size=A.tmps.size->B.get (6+7)=.bool (decide ((r.src.length:Int)<k))->yielded (iW K 0 6++[bi (some (6+4)) .len [tm (6+3)] [K.tSl] K.tInt,mk (some (6+5)) (.move (tm 1)),mk (some (6+6)) (.binOp .lss K.tInt (tm (6+4)) (tm (6+5)) 0),mk (some (6+7)) (.move (tm (6+6))),
    gd (6+8) (.move (tm 1)) 7 false,gd (6+9) (.binOp .lss K.tInt (tm (6+8)) (ki .i64 0) 0) 7 false,mk (some (6+10)) (.pick (tm (6+7)) (.const (.bool true)) (tm (6+9)))]).toArray B.tmps 7=some (decide ((r.src.length:Int)<k)):=fun B hB hg=>
   bY (d:=6+7) (o:=mk (some (6+7)) (.move (tm (6+6)))) rfl rfl (by omega) hg
  by_cases Gq:(r.src.length:Int)<k
  ·have hdt:decide ((r.src.length:Int)<k)=true:=by simp[Gq]
   rw[hdt]at Jt hy hb
   refine d8 (c:=true) (hy A rfl Jt) (by simp) ?_
   refine d8 (c:=true) (hy _ (ab _ _ _) (by rw[ak (by omega)];exact Jt)) (by simp) ?_
   refine fm (b:=true) (by rw[aa,ak (by omega),ak (by omega)];exact Jt) (wpList_nil (hK _ ?_ (((Gt.put undef (d:=6+8) (by omega)).put undef (d:=6+9) (by omega)).put _ (by omega))))
   rw[aa,am (by simp only[ab];omega),hb]
   rfl
  ·have GS:decide ((r.src.length:Int)<k)=false:=by simp[Gq]
   rw[GS]at Jt hy hb
   refine fp (v:=.int .i64 k) (hy A rfl Jt) (by simp only[execOp,mk,aa,Lx];rfl) ?_
   refine fp (v:=.bool (decide (k<0))) (hy _ (ab _ _ _) (by rw[ak (by omega)];exact Jt)) ?_ ?_
   ·have Mz:(A.put (some (6+8)) (.int .i64 k)).eval (tm (6+8))=.int .i64 k:=by rw[aa];exact am (by omega)
    have IB:(A.put (some (6+8)) (.int .i64 k)).eval (ki .i64 0)=.int .i64 0:=rfl
    have hg:(eqGuard .lss K.tInt (tm (6+8)) (ki .i64 0) (.int .i64 k) (.int .i64 0)).run P w=.ok () w:=by simp[eqGuard]
    have hr:=i5 (P:=P) (w:=w) (T:=K.tInt) (k:=.i64) (p:=k) (q:=0) (op:=.lss) (b:=decide (k<0)) (.inr (.inr (.inl ⟨rfl,rfl⟩)))
    simp only[execOp,mk,Mz,IB,Sem.run_bind,hg,Result.andThen_ok,hr,Sem.run_pure]
   ·refine fm (b:=false) (by rw[aa,ak (by omega),ak (by omega)];exact Jt) (wpList_nil (hK _ ?_ (((Gt.put _ (d:=6+8) (by omega)).put _ (d:=6+9) (by omega)).put _ (by omega))))
    rw[aa,am (by simp only[ab];omega),hb]
    simp only[Bool.false_eq_true,if_false,Bool.false_or]
    rw[aa,am (by simp only[ab];omega)]
 refine ad ?_
 rw[aV]
 by_cases GT:(r.src.length:Int)<k \/ k<0
 ·have HU:b9 k r=(.nul,.fail):=by simp only[b9,GT,if_true]
  rw[HU]
  refine dt (G3 true _ _ (by rcases GT with h|h<;>simp[h]) fun a2 he Gm=>⟨he,?_⟩)
  have G9:=Gm.size
  refine rR kt (by rw[Gm.get 0 (by omega) (.inr ⟨by omega,by omega⟩),Ip 0 (by omega)];exact HS) hv hRS (by omega) (by omega) fun a3 w3 H6 GI HA Gx=>⟨by rw[H6,Gm.defers,Gk.defers];exact IC,.slice none 0 0,?_,HA,Gx,.inl ⟨rfl,rfl,rfl⟩⟩
  simp only[bj];rw[GI]
 ·have Hk:0<=k:=by omega
  obtain⟨kn,rfl⟩:∃ kn:Nat,k=(kn:Int):=⟨k.toNat,by omega⟩
  have Kl:kn<=r.src.length:=by omega
  have HU:b9 (kn:Int) r=(if r.nl then .nul else .s (r.src.take kn),⟨r.src.drop kn,r.bad,r.nl⟩):=by simp only[b9,GT,if_false,Int.toNat_natCast]
  rw[HU]
  refine dg (G3 false _ _ (by simp at GT ⊢;omega) fun a2 he Gm=>⟨he,.skip ?_⟩)
  have G9:=Gm.size
  have PA:a2.get 0=pt R 0:=by rw[Gm.get 0 (by omega) (.inr ⟨by omega,by omega⟩),Ip 0 (by omega)];exact HS
  have J4:a2.get 1=.int .i64 kn:=by rw[Gm.get 1 (by omega) (.inr ⟨by omega,by omega⟩),Ip 1 (by omega)];exact Gv
  show LW P [aA 7 fun n=>iW K 0 n++[mk (some (n+4)) (.move (tm 1)),mk (some (n+5)) (.move (tm 1)),mk (some (n+6)) (.slice K.tSl (tm (n+3)) none (some (tm (n+4))) (some (tm (n+5)))),mk (some 5) (.assign (tm (n+6)))],mq K 1,bB 5 4,aY .ret] 23 _ a2 w
  refine ad (au (kz kt PA hv (by omega) fun a3 Gt GI=>?_))
  have Hh:=Gt.size
  have Ia:a3.get 1=.int .i64 kn:=(Gt.get 1 (by omega) (.inr ⟨by omega,by omega⟩)).trans J4
  have Pp:a3.get 0=pt R 0:=(Gt.get 0 (by omega) (.inr ⟨by omega,by omega⟩)).trans PA
  refine ag ?_
  rw[aa,Ia]
  refine ag ?_
  rw[aa,ak (by omega),Ia]
  refine s6 kt (k:=kn) (by rw[aa,ak (by omega),ak (by omega)];exact GI) hv.2 (by rw[aa,ak (by omega),am (by omega)]) (by rw[aa,am (by simp only[ab];omega)]) Kl ?_
  refine aj (wpList_nil ?_)
  rw[aa,am (by simp only[ab];omega)]
  have GD:Pv 5 0 0 23 a3 ((((a3.put (some (23+4)) (.int .i64 kn)).put (some (23+5)) (.int .i64 kn)).put (some (23+6)) (jb v kn)).put (some 5) (jb v kn)):=((((Pv.refl _ _ _ _ _).put _ (by omega)).put _ (by omega)).put _ (by omega)).put _ (by omega)
  have II:((((a3.put (some (23+4)) (.int .i64 kn)).put (some (23+5)) (.int .i64 kn)).put (some (23+6)) (jb v kn)).put (some 5) (jb v kn)).get 5=jb v kn:=am (by simp only[ab];omega)
  generalize((((a3.put (some (23+4)) (.int .i64 kn)).put (some (23+5)) (.int .i64 kn)).put (some (23+6)) (jb v kn)).put (some 5) (jb v kn))=a4 at GD II ⊢
  have IP:=GD.size
  refine ad (zx kt (k:=kn) ((GD.get 0 (by omega) (.inr ⟨by omega,by omega⟩)).trans Pp) ((GD.get 1 (by omega) (.inr ⟨by omega,by omega⟩)).trans Ia) hv Kl hRS (by simp only[aA];omega) (by simp only[aA];omega) (by simp only[aA];omega) fun a5 HB Mc=>?_)
  simp only[aA]at HB
  have Nd:=HB.size
  refine ad (eH (x:=4) (m:=0) (k0:=0) (.inl rfl) (Nat.le_refl _) (by omega) (by simp only[mq,aA];omega) (by omega) fun a6 hp6 OK=>ad (.ret ⟨?_,jb v kn,?_,Mc,ac.setRow (fun k=>k=R) _ _ _ rfl,(hv.2.cap Kl).keep (ac.setRow (fun k=>k=R) _ _ _ rfl) hRS⟩))
  ·rw[hp6.defers,HB.defers,GD.defers,Gt.defers,Gm.defers,Gk.defers];exact IC
  ·simp only[bj]
   rw[OK,HB.get 5 (by omega) (.inr ⟨by omega,by omega⟩),II]
end
theorem Ag {b:Nat}(_h:b<256):b &&& 127=b%128:=by
 have:=Nat.and_two_pow_sub_one_eq_mod b 7
 simpa using this
theorem Dp {b:Nat}(h:b<256):b &&& 128=if b<128 then 0 else 128:=by
 have key:∀ x:Fin 256,x.val &&& 128=if x.val<128 then 0 else 128:=by decide +kernel
 exact key ⟨b,h⟩
section
variable {P:Program} {g:G} {K:Kn} {T S:Nat} {r:RS} {n:Nat} {KK:Act->World->Prop} {Q:Exit->Act->World->Prop} {a:Act} {w:World} {v:Value}
theorem qk {A b m:Nat}(h:b<256)(hm:m<256)(w:World):(binOp .and A (.int .u8 (b:Int)) (.int .u8 (m:Int))).run P w=.ok (.int .u8 ((b &&& m:Nat):Int)) w:=by
 have e1:BitVec.ofInt IntKind.u8.bits (b:Int)=BitVec.ofNat IntKind.u8.bits b:=BitVec.ofInt_natCast ..
 have e2:BitVec.ofInt IntKind.u8.bits (m:Int)=BitVec.ofNat IntKind.u8.bits m:=BitVec.ofInt_natCast ..
 have Gq:b &&& m<256:=Nat.lt_of_le_of_lt Nat.and_le_left h
 have e3:(BitVec.ofNat IntKind.u8.bits b &&& BitVec.ofNat IntKind.u8.bits m).toNat=b &&& m:=by
  rw[BitVec.toNat_and,BitVec.toNat_ofNat,BitVec.toNat_ofNat,Nat.mod_eq_of_lt (show b<2^IntKind.u8.bits from h),Nat.mod_eq_of_lt (show m<2^IntKind.u8.bits from hm)]
 have e4:IntKind.u8.wrap ((b &&& m:Nat):Int)=((b &&& m:Nat):Int):=by
  simp only[IntKind.wrap,IntKind.bits,IntKind.signed]
  simp
  omega
 have HM:(IntKind.u8≠IntKind.u8)=False:=by simp
 simp only[binOp,HM,if_false,Op.intBits,e1,e2,e3,e4,Sem.run_pure]
theorem kR (kt:KT P g K){ops:Array Oper}{l:List Oper}{i:Nat}{b:UInt8}(h0:a.get 0=v)(hv:bQ w S v r)(hi:r.src[i]?=some b)(hn:n+3<=a.tmps.size)(h:∀ a',Pv n 0 0 n a a'->a'.get (n+2)=.int .u8 (b.toNat:Int)->wpList P ops Q l a' w):wpList P ops Q (o6 K i n++l) a w:=by
 have Mq:i<r.src.length:=(List.getElem?_eq_some_iff.1 hi).1
 obtain⟨o,c,J5,KN⟩:=xR hv (by omega)
 show wpList P ops Q (mk (some n) (.move (tm 0))::mk (some (n+1)) (.indexAddr K.tSl (tm n) (ki .i64 i))::mk (some (n+2)) (.load K.tU8 (tm (n+1)))::l) a w
 refine ag ?_
 rw[aa,h0,J5]
 refine cz (i:=i) (k:=.i64) (sz:=1) (by rw[aa,am (by omega)]) rfl Mq kt.sl (kt.u8.size _) ?_
 refine b5 (v:=.int .u8 (b.toNat:Int)) (by rw[aa,am (by simp only[ab];omega)]) (kt.u8.agg _) (by rw[Nat.mul_one];exact KN i b hi) ?_
 exact h _ ((((Pv.refl _ _ _ _ _).put _ (by omega)).put _ (by omega)).put _ (by omega)) (am (by simp only[ab];omega))
theorem uB (kt:KT P g K){k:Nat}(h0:a.get 0=v)(hv:bQ w S v r)(hn:n+3<=a.tmps.size)(JZ:r.src.length<k->∀ a',Pv n 0 0 n a a'->Q (.goto 0) a' w)(G1:k<=r.src.length->∀ a',Pv n 0 0 n a a'->Q .normal a' w):aQ P (pN K k n).1 Q a w:=by
 obtain⟨base,c,J5,_⟩:=hv.len
 have key:∀ (b:Bool) (K':Act->World->Prop),b=decide ((r.src.length:Int)<(k:Int))->(∀ a',a'.eval (tm (n+2))=.bool b->Pv n 0 0 n a a'->K' a' w) ->
   wpList P [mk (some n) (.move (tm 0)),bi (some (n+1)) .len [tm n] [K.tSl] K.tInt,mk (some (n+2)) (.binOp .lss K.tInt (tm (n+1)) (ki .i64 k) 0)].toArray (Exit.then K' Q) [mk (some n) (.move (tm 0)),bi (some (n+1)) .len [tm n] [K.tSl] K.tInt,mk (some (n+2)) (.binOp .lss K.tInt (tm (n+1)) (ki .i64 k) 0)] a w:=by
  intro b K' hb hK
  refine ag ?_
  rw[aa,h0,J5]
  refine en (by rw[aa,am (by omega)]) kt.sl ?_
  refine bt (b:=b) (p:=(r.src.length:Int)) (q:=k) (k:=.i64) (by rw[aa,am (by simp only[ab];omega)]) rfl (.inr (.inr (.inl ⟨rfl,hb⟩))) (wpList_nil (hK _ (by rw[aa,am (by simp only[ab];omega)]) ((((Pv.refl _ _ _ _ _).put _ (by omega)).put _ (by omega)).put _ (by omega))))
 by_cases Gq:r.src.length<k
 ·exact dt (key true _ (by simp;omega) fun a' he hp=>⟨he,.goto (JZ Gq a' hp)⟩)
 ·exact dg (key false _ (by simp;omega) fun a' he hp=>⟨he,.skip (G1 (by omega) a' hp)⟩)
theorem Bv {i acc:Nat}(h4:a.get 4=.int .u32 acc)(hn:n+1<=a.tmps.size)(RF:4<n)(h:∀ a',a'.defers=a.defers->a'.get 2=.int .u32 acc->a'.get 3=.int .i64 i->Q .ret a' w):aQ P (A5 i n).1 Q a w:=by
 refine bm (ad (au (ag (aj (aj (wpList_nil (ad (.ret (h _ (by simp only[ai]) ?_ ?_)))))))))
 ·rw[ak (by omega),am (by simp only[ab];omega),aa,am (by omega),aa,h4]
 ·rw[am (by simp only[ab];omega)];rfl
theorem pM (kt:KT P g K){i acc:Nat}{b:UInt8}(h0:a.get 0=v)(h4:a.get 4=.int .u32 acc)(hv:bQ w S v r)(hi:r.src[i]?=some b)(hn:n+9<=a.tmps.size)(RF:4<n)
  (Oo:b.toNat<128->∀ a',a'.defers=a.defers->a'.get 2=.int .u32 acc->a'.get 3=.int .i64 ((i+1:Nat):Int)->Q .ret a' w) (JZ:128<=b.toNat->r.src.length<i+2->∀ a',Pv n 0 0 n a a'->Q (.goto 0) a' w) (G1:128<=b.toNat->i+2<=r.src.length->∀ a',Pv n 0 0 n a a'->Q .normal a' w) :
  aQ P (ll K i n).1 Q a w:=by
 have hb:=UInt8.toNat_lt b
 have key:∀ (c:Bool) (K':Act->World->Prop),c=decide (b.toNat<128)->(∀ a',a'.eval (tm (n+4))=.bool c->Pv n 0 0 n a a'->K' a' w) ->
   wpList P (o6 K i n++[mk (some (n+3)) (.binOp .and K.tU8 (tm (n+2)) (ki .u8 128) 0),mk (some (n+4)) (.binOp .eql K.tU8 (tm (n+3)) (ki .u8 0) 0)]).toArray (Exit.then K' Q) (o6 K i n++[mk (some (n+3)) (.binOp .and K.tU8 (tm (n+2)) (ki .u8 128) 0),mk (some (n+4)) (.binOp .eql K.tU8 (tm (n+3)) (ki .u8 0) 0)]) a w:=by
  intro c K' hc hK
  refine kR kt h0 hv hi (by omega) fun a1 Gk Gv=>?_
  have Gu:=Gk.size
  refine cE (k:=.u8) (m:=(b.toNat:Int)) (n:=((128:Nat):Int)) (by rw[aa];exact Gv) rfl (by simp) (qk hb (by omega) w) ?_
  rw[Dp hb]
  refine bt (b:=c) (p:=((if b.toNat<128 then 0 else 128:Nat):Int)) (q:=0) (k:=.u8) (by rw[aa,am (by omega)]) rfl (.inr (.inr (.inr (.inr (.inl ⟨rfl,?_⟩))))) (wpList_nil (hK _ (by rw[aa,am (by simp only[ab];omega)]) ((Gk.put _ (by omega)).put _ (by omega))))
  rw[hc]
  by_cases h:b.toNat<128<;>simp[h]
 by_cases Gq:b.toNat<128
 ·refine dt (key true _ (by simp[Gq]) fun a' he hp=>⟨he,?_⟩)
  exact Bv ((hp.get 4 (by omega) (.inr ⟨by omega,by omega⟩)).trans h4) (by have:=hp.size;omega) (by omega) fun a2 hd G2 GI=>Oo Gq a2 (hd.trans hp.defers) G2 GI
 ·refine dg (key false _ (by simp[Gq]) fun a' he hp=>⟨he,?_⟩)
  have hs:=hp.size
  rw[show(A5 (i+1) (n+5)).2=n+6 from rfl]
  have Qb:∀ a2,Pv (n+6) 0 0 (n+6) a' a2->Pv n 0 0 n a a2:=fun a2 h2=>hp.trans ⟨h2.size,h2.defers,fun s hs hh=>h2.get s (by omega) (.inr ⟨by omega,by omega⟩)⟩
  exact uB kt ((hp.get 0 (by omega) (.inr ⟨by omega,by omega⟩)).trans h0) hv (by omega) (fun h2 a2 Gm=>JZ (by omega) h2 a2 (Qb a2 Gm)) (fun h2 a2 Gm=>G1 (by omega) h2 a2 (Qb a2 Gm))
theorem A4 (kt:KT P g K){b:UInt8}(h0:a.get 0=v)(hv:bQ w S v r)(hi:r.src[0]?=some b)(hn:n+5<=a.tmps.size)(RF:5<n)(h:∀ a',Pv 4 0 0 n a a'->a'.get 4=.int .u32 ((b.toNat%128:Nat):Int)->KK a' w):aQ P (sH K n).1 (Exit.then KK Q) a w:=by
 have hb:=UInt8.toNat_lt b
 refine au (kR kt h0 hv hi (by omega) fun a1 Gk Gv=>?_)
 have Gu:=Gk.size
 refine cE (k:=.u8) (m:=(b.toNat:Int)) (n:=((127:Nat):Int)) (by rw[aa];exact Gv) rfl (by simp) (qk hb (by omega) w) ?_
 rw[Ag hb]
 refine aT (k:=.u8) (k':=.u32) (by rw[aa,am (by omega)]) kt.dU8 kt.dU32 ?_
 rw[gk (.inr (.inl rfl)) (by simp[IntKind.bits];omega)]
 refine aj (wpList_nil ?_)
 rw[aa,am (by simp only[ab];omega)]
 have hp:Pv 4 0 0 n a a1:=⟨Gk.size,Gk.defers,fun s hs hh=>Gk.get s (by omega) (.inr ⟨by omega,by omega⟩)⟩
 exact h _ (((hp.put _ (by omega)).put _ (by omega)).put _ (by omega)) (am (by simp only[ab];omega))
theorem sG (kt:KT P g K){i s acc:Nat}{b:UInt8}(h0:a.get 0=v)(h4:a.get 4=.int .u32 acc)(IL:acc<2^s)(hs:s+8<=32)(hv:bQ w S v r)(hi:r.src[i]?=some b)(hn:n+8<=a.tmps.size)(RF:5<n)
  (h:∀ a',Pv 4 0 0 n a a'->a'.get 4=.int .u32 ((b.toNat%128*2^s+acc:Nat):Int)->KK a' w):aQ P (ny K i s n).1 (Exit.then KK Q) a w:=by
 have hb:=UInt8.toNat_lt b
 have hm:b.toNat%128<256:=by omega
 refine au (ag ?_)
 rw[aa,h4]
 refine kR kt (by rw[ak (by omega)];exact h0) hv hi (by simp only[ab];omega) fun a1 Gk Gv=>?_
 have Gu:=Gk.size
 rw[ab]at Gu
 have MG:a1.get n=.int .u32 acc:=by rw[Gk.get n (by omega) (.inr ⟨by omega,by omega⟩),am (by omega)]
 have hp:Pv 4 0 0 n a a1:=((Pv.refl 4 0 0 n a).put (.int .u32 acc) (by omega)).trans ⟨Gk.size,Gk.defers,fun s hs hh=>Gk.get s (by omega) (.inr ⟨by omega,by omega⟩)⟩
 refine cE (k:=.u8) (m:=(b.toNat:Int)) (n:=((127:Nat):Int)) (by rw[aa];exact Gv) rfl (by simp) (qk hb (by omega) w) ?_
 rw[Ag hb]
 refine aT (k:=.u8) (k':=.u32) (by rw[aa,am (by omega)]) kt.dU8 kt.dU32 ?_
 rw[gk (.inr (.inl rfl)) (by simp[IntKind.bits];omega)]
 refine aD (v:=.int .u32 ((b.toNat%128*2^s:Nat):Int)) (w':=w) ?_ ?_
 ·have e1:∀ B:Act,B.eval (ki .u64 (s:Int))=.int .u64 (s:Int):=fun _=>rfl
  have e2:(((a1.put (some (n+4)) (.int .u8 ((b.toNat%128:Nat):Int))).put (some (n+5)) (.int .u32 ((b.toNat%128:Nat):Int)))).eval (tm (n+5))=.int .u32 ((b.toNat%128:Nat):Int):=by rw[aa,am (by simp only[ab];omega)]
  have hr:=uS (P:=P) (A:=K.tU32) (.inr (.inl rfl)) hm (show s+8<=IntKind.u32.bits by simpa[IntKind.bits]using hs) w
  have hg:(eqGuard .shl K.tU32 (tm (n+5)) (ki .u64 (s:Int)) (.int .u32 ((b.toNat%128:Nat):Int)) (.int .u64 (s:Int))).run P w=.ok () w:=by simp[eqGuard]
  simp only[execOp,mk,e1,e2,Sem.run_bind,hg,Result.andThen_ok,hr,Sem.run_pure]
 refine cE (k:=.u32) (m:=(acc:Int)) (n:=((b.toNat%128*2^s:Nat):Int)) (by rw[aa,ak (by omega),ak (by omega),ak (by omega)];exact MG) (by rw[aa,am (by simp only[ab];omega)]) (by simp)
  (yo (.inr (.inl rfl)) IL hm (by simpa[IntKind.bits]using hs) w) ?_
 refine aj (wpList_nil ?_)
 rw[aa,am (by simp only[ab];omega)]
 exact h _ (((((hp.put _ (by omega)).put _ (by omega)).put _ (by omega)).put _ (by omega)).put _ (by omega)) (am (by simp only[ab];omega))
end
section
variable {P:Program} {g:G} {K:Kn} {T S R:Nat} {r:RS} {n:Nat} {KK:Act->World->Prop} {Q:Exit->Act->World->Prop} {a:Act} {w:World} {v:Value}
theorem wk {A b:Nat}(w:World):(binOp .shl A (.int .u32 (b:Int)) (.int .u64 28)).run P w=.ok (.int .u32 ((b%16*2^28:Nat):Int)) w:=by
 have h5:IntKind.u32.wrap ((b:Int)*2^28)=((b%16*2^28:Nat):Int):=by
  simp[IntKind.wrap,IntKind.bits,IntKind.signed]
  omega
 have h1:¬ ((28:Int)<0):=by omega
 have h2:min (28:Int).toNat IntKind.u32.bits=28:=by simp[IntKind.bits]
 simp only[binOp,Op.shift,h1,if_false,h2,h5,Sem.run_pure]
theorem yn {A acc b:Nat}(ha:acc<2^28)(hb:b<16)(w:World):(binOp .or A (.int .u32 (acc:Int)) (.int .u32 ((b*2^28:Nat):Int))).run P w=.ok (.int .u32 ((b*2^28+acc:Nat):Int)) w:=by
 have h3:b*2^28+acc<2^IntKind.u32.bits:=by simp only[IntKind.bits];omega
 have e1:BitVec.ofInt IntKind.u32.bits (acc:Int)=BitVec.ofNat IntKind.u32.bits acc:=BitVec.ofInt_natCast ..
 have e2:BitVec.ofInt IntKind.u32.bits ((b*2^28:Nat):Int)=BitVec.ofNat IntKind.u32.bits (b*2^28):=BitVec.ofInt_natCast ..
 have e3:acc ||| b*2^28=b*2^28+acc:=by
  rw[Nat.or_comm,Nat.mul_comm,<- Nat.two_pow_add_eq_or_of_lt ha]
 have e4:(BitVec.ofNat IntKind.u32.bits acc ||| BitVec.ofNat IntKind.u32.bits (b*2^28)).toNat=b*2^28+acc:=by
  rw[BitVec.toNat_or,BitVec.toNat_ofNat,BitVec.toNat_ofNat,Nat.mod_eq_of_lt (Nat.lt_of_le_of_lt (Nat.le_add_left _ _) h3),Nat.mod_eq_of_lt (Nat.lt_of_le_of_lt (Nat.le_add_right _ _) h3),e3]
 have HM:(IntKind.u32≠IntKind.u32)=False:=by simp
 simp only[binOp,HM,if_false,Op.intBits,e1,e2,e4,gk (.inr (.inl rfl)) h3,Sem.run_pure]
theorem Co (kt:KT P g K){acc:Nat}{b:UInt8}(h0:a.get 0=v)(h4:a.get 4=.int .u32 acc)(IL:acc<2^28)(hv:bQ w S v r)(hi:r.src[4]?=some b)(hn:n+7<=a.tmps.size)(RF:5<n)
  (h:∀ a',Pv 4 0 0 n a a'->a'.get 4=.int .u32 ((b.toNat%16*2^28+acc:Nat):Int)->KK a' w):aQ P (xI K n).1 (Exit.then KK Q) a w:=by
 have hb:=UInt8.toNat_lt b
 refine au (ag ?_)
 rw[aa,h4]
 refine kR kt (by rw[ak (by omega)];exact h0) hv hi (by simp only[ab];omega) fun a1 Gk Gv=>?_
 have Gu:=Gk.size
 rw[ab]at Gu
 have MG:a1.get n=.int .u32 acc:=by rw[Gk.get n (by omega) (.inr ⟨by omega,by omega⟩),am (by omega)]
 have hp:Pv 4 0 0 n a a1:=((Pv.refl 4 0 0 n a).put (.int .u32 acc) (by omega)).trans ⟨Gk.size,Gk.defers,fun s hs hh=>Gk.get s (by omega) (.inr ⟨by omega,by omega⟩)⟩
 refine aT (k:=.u8) (k':=.u32) (by rw[aa];exact Gv) kt.dU8 kt.dU32 ?_
 rw[gk (.inr (.inl rfl)) (by simp[IntKind.bits];omega)]
 refine aD (v:=.int .u32 ((b.toNat%16*2^28:Nat):Int)) (w':=w) ?_ ?_
 ·have e1:∀ B:Act,B.eval (ki .u64 28)=.int .u64 28:=fun _=>rfl
  have e2:(a1.put (some (n+4)) (.int .u32 (b.toNat:Int))).eval (tm (n+4))=.int .u32 (b.toNat:Int):=by rw[aa,am (by omega)]
  have hr:=wk (P:=P) (A:=K.tU32) (b:=b.toNat) w
  have hg:(eqGuard .shl K.tU32 (tm (n+4)) (ki .u64 28) (.int .u32 (b.toNat:Int)) (.int .u64 28)).run P w=.ok () w:=by simp[eqGuard]
  simp only[execOp,mk,e1,e2,Sem.run_bind,hg,Result.andThen_ok,hr,Sem.run_pure]
 refine cE (k:=.u32) (m:=(acc:Int)) (n:=((b.toNat%16*2^28:Nat):Int)) (by rw[aa,ak (by omega),ak (by omega)];exact MG) (by rw[aa,am (by simp only[ab];omega)]) (by simp)
  (yn IL (by omega) w) ?_
 refine aj (wpList_nil ?_)
 rw[aa,am (by simp only[ab];omega)]
 exact h _ ((((hp.put _ (by omega)).put _ (by omega)).put _ (by omega)).put _ (by omega)) (am (by simp only[ab];omega))
theorem D8 (kt:KT P g K){acc:Nat}{b:UInt8}(h0:a.get 0=v)(h4:a.get 4=.int .u32 acc)(hv:bQ w S v r)(hi:r.src[4]?=some b)(hn:n+6<=a.tmps.size)(RF:4<n)
  (Oo:b.toNat<=15->∀ a',a'.defers=a.defers->a'.get 2=.int .u32 acc->a'.get 3=.int .i64 5->Q .ret a' w) (G1:¬ b.toNat<=15->∀ a',Pv n 0 0 n a a'->Q .normal a' w):aQ P (Cp K n).1 Q a w:=by
 have key:∀ (c:Bool) (K':Act->World->Prop),c=decide ((b.toNat:Int)<=15)->(∀ a',a'.eval (tm (n+3))=.bool c->Pv n 0 0 n a a'->K' a' w) ->
   wpList P (o6 K 4 n++[mk (some (n+3)) (.binOp .leq K.tU8 (tm (n+2)) (ki .u8 15) 0)]).toArray (Exit.then K' Q) (o6 K 4 n++[mk (some (n+3)) (.binOp .leq K.tU8 (tm (n+2)) (ki .u8 15) 0)]) a w:=by
  intro c K' hc hK
  refine kR kt h0 hv hi (by omega) fun a1 Gk Gv=>?_
  have Gu:=Gk.size
  refine bt (b:=c) (p:=(b.toNat:Int)) (q:=15) (k:=.u8) (by rw[aa];exact Gv) rfl (.inr (.inl ⟨rfl,hc⟩)) (wpList_nil (hK _ (by rw[aa,am (by omega)]) (Gk.put _ (by omega))))
 by_cases Gq:b.toNat<=15
 ·refine dt (key true _ (by simp;omega) fun a' he hp=>⟨he,?_⟩)
  exact Bv ((hp.get 4 (by omega) (.inr ⟨by omega,by omega⟩)).trans h4) (by have:=hp.size;omega) (by omega) fun a2 hd G2 GI=>Oo Gq a2 (hd.trans hp.defers) G2 GI
 ·exact dg (key false _ (by simp;omega) fun a' he hp=>⟨he,.skip (G1 Gq a' hp)⟩)
def Cb (src:Bs)(a:Act):Prop:=a.defers=[]/\a.get 2=.int .u32 ((bI src).1:Int)/\a.get 3=.int .i64 (bI src).2
structure US (v:Value)(ntmps acc:Nat)(a:Act):Prop where
 g0:a.get 0=v
 g4:a.get 4=.int .u32 acc
 g5:a.get 5=.int .i64 0
 size:a.tmps.size=ntmps
 defers:a.defers=[]
theorem US.pv {v:Value}{ntmps acc:Nat}{a a':Act}{n:Nat}(h:US v ntmps acc a)(hp:Pv n 0 0 n a a')(hn:5<n):US v ntmps acc a':=
 ⟨(hp.get 0 (by omega) (.inr ⟨by omega,by omega⟩)).trans h.g0,(hp.get 4 (by omega) (.inr ⟨by omega,by omega⟩)).trans h.g4,(hp.get 5 (by omega) (.inr ⟨by omega,by omega⟩)).trans h.g5,hp.size.trans h.size,hp.defers.trans h.defers⟩
theorem US.next {v:Value}{ntmps acc acc':Nat}{a a':Act}{n:Nat}(h:US v ntmps acc a)(hp:Pv 4 0 0 n a a')(hn:5<n)(h4:a'.get 4=.int .u32 acc'):US v ntmps acc' a':=
 ⟨(hp.get 0 (by omega) (.inr ⟨by omega,by omega⟩)).trans h.g0,h4,(hp.get 5 (by omega) (.inr ⟨by omega,by omega⟩)).trans h.g5,hp.size.trans h.size,hp.defers.trans h.defers⟩
def Bw:List GC:=[aA 1 fun n=>[mk (some n) (.move (tm 5)),mk (some 2) (.assign (ki .u32 0)),mk (some 3) (.assign (tm n))],aY .ret]
theorem xH {x:Int}{J:Act->World->Prop}{E:Act->World->Prop}(h5:a.get 5=.int .i64 x)(hn:n+1<=a.tmps.size)(h5n:5<n)(h:∀ a',a'.defers=a.defers->a'.get 2=.int .u32 0->a'.get 3=.int .i64 x->E a' w) :
  LW P Bw n (Exit.jump 0 J (Rt (fun _ _=>False) E)) a w:=by
 refine ad (au (ag (aj (aj (wpList_nil (ad (.ret (h _ (by simp only[ai]) ?_ ?_))))))))
 ·rw[ak (by omega),am (by simp only[ab];omega)];rfl
 ·rw[am (by simp only[ab];omega),aa,ak (by omega),am (by omega),aa,h5]
theorem vO (K:Kn):findLabel (sq (gL (Cq K) 6).1) 0=some (.seq .skip (sq (gL Bw 86).1)):=rfl
theorem sD (kt:KT P g K){f ntmps:Nat}(hfn:FnIs P f ntmps [2,3] (cUvIn K))(G8:87<=ntmps)(hv:bQ w S v r):Calls P f #[v] w fun e w'=>e=.returned (.tuple #[.int .u32 ((bI r.src).1:Int),.int .i64 (bI r.src).2])/\w'=w:=by
 refine hfn.calls kt.mixed (by simp) ?_
 refine mM (K:=fun _ _=>False) (E:=fun a' w'=>Cb r.src a'/\w'=w) ?_ (fun _ _ h=>h.elim) (fun a' w' h=>⟨h.1.1,by simp only[bj];rw[show([2,3]:List Nat).map a'.get=[a'.get 2,a'.get 3] from rfl,h.1.2.1,h.1.2.2],h.2⟩)
 have G0:=cH #[v] ntmps (by show 1<=ntmps;omega)
 have HS:({ tmps:=#[v]++Array.replicate (ntmps-(#[v]:Array Value).size) undef,defers:=[] }:Act).get 0=v:=by rw[bX _ _ _ (by simp)];rfl
 have IC:({ tmps:=#[v]++Array.replicate (ntmps-(#[v]:Array Value).size) undef,defers:=[] }:Act).defers=[]:=rfl
 have hsz':({ tmps:=#[v]++Array.replicate (ntmps-(#[v]:Array Value).size) undef,defers:=[] }:Act).tmps.size=ntmps:=G0
 generalize({ tmps:=#[v]++Array.replicate (ntmps-(#[v]:Array Value).size) undef,defers:=[] }:Act)=a at HS IC hsz' ⊢
 refine .seq (R:=Rt (fun a' w'=>a'.get 0=v/\a'.tmps.size=ntmps/\a'.defers=[]/\w'=w) (fun _ _=>False)) (.reg (aj (aj (wpList_nil ⟨?_,?_,?_,rfl⟩)))) (fun a1 w1 hh=>?_) (fun e a w he hq=>by cases e<;>first|exact absurd rfl he|exact hq.elim)
 ·rw[ak (by omega),ak (by omega)];exact HS
 ·simp only[ab];exact hsz'
 ·simp only[ai];exact IC
 obtain⟨Gv,Gu,Jg,rfl⟩:=hh
 refine .scope 0 (fun a' w'=>a'.get 5=.int .i64 0/\a'.tmps.size=ntmps/\a'.defers=[]/\bI r.src=(0,0)/\w'=w1) (fun _ _=>0) (vO K) ?_ (fun a' w' hJ=>?_)
 ·show LW P (Cq K) 6 (Exit.jump 0 (fun a' w'=>a'.get 5=.int .i64 0/\a'.tmps.size=ntmps/\a'.defers=[]/\bI r.src=(0,0)/\w'=w1) (Rt (fun _ _=>False) (fun a' w'=>Cb r.src a'/\w'=w1))) a1 w1
  refine ad (dH (x:=4) (m:=0) (k0:=0) (.inl rfl) (by omega) fun a2 Gm hg42=>?_)
  refine ad (dH (x:=5) (m:=0) (k0:=0) (.inl rfl) (by have:=Gm.size;omega) fun a3 Gt Ue=>?_)
  have hU:US v ntmps 0 a3:=⟨(Gt.get 0 (by omega) (.inr ⟨by omega,by simp[aU,aA]⟩)).trans ((Gm.get 0 (by omega) (.inr ⟨by omega,by omega⟩)).trans Gv),(Gt.get 4 (by omega) (.inr ⟨by omega,by simp[aU,aA]⟩)).trans hg42,Ue,Gt.size.trans (Gm.size.trans Gu),Gt.defers.trans (Gm.defers.trans Jg)⟩
  rw[show(aU 5 (.int .i64 0) (aU 4 (.int .u32 0) 6).2).2=6 from rfl]
  refine ad (uB (n:=6) kt hU.g0 hv (by have:=hU.size;omega) (fun Gq a' hp=>⟨rfl,(hU.pv hp (by omega)).g5,(hU.pv hp (by omega)).size,(hU.pv hp (by omega)).defers,?_,rfl⟩) (fun G5 a4 GD=>?_))
  ·have:r.src=[]:=by cases hh:r.src with|nil=>rfl|cons b t=>rw[hh]at Gq;simp at Gq
   rw[this];rfl
  have UN:=hU.pv GD (by omega)
  obtain⟨b0,t0,Jn⟩:=lk G5
  have P7:=UInt8.toNat_lt b0
  rw[show(pN K 1 6).2=9 from rfl]
  refine ad (A4 (n:=9) (b:=b0) kt UN.g0 hv (by rw[Jn];rfl) (by have:=UN.size;omega) (by omega) fun a5 HB II=>?_)
  have NS:=UN.next HB (by omega) II
  rw[show(sH K 9).2=14 from rfl]
  refine ad (pM (n:=14) (i:=0) (b:=b0) kt NS.g0 NS.g4 hv (by rw[Jn];rfl) (by have:=NS.size;omega) (by omega) (fun Gq a' hd' h2' h3'=>⟨⟨hd'.trans NS.defers,?_,?_⟩,rfl⟩) (fun Hm Gq a' hp=>⟨rfl,(NS.pv hp (by omega)).g5,(NS.pv hp (by omega)).size,(NS.pv hp (by omega)).defers,?_,rfl⟩) (fun hge0 Q0 c0 M7=>?_))
  ·rw[h2',Jn];simp only[bI, Gq,if_true];congr 2;omega
  ·rw[h3',Jn];simp only[bI, Gq,if_true];rfl
  ·have ht:t0=[]:=by cases hh:t0 with|nil=>rfl|cons b t=>rw[Jn,hh]at Gq;simp only[List.length_cons]at Gq;omega
   rw[Jn,ht];simp only[bI,show ¬ b0.toNat<128 by omega,if_false]
  obtain⟨b1,t1,LB⟩:=lk (show 1<=t0.length by rw[Jn]at Q0;simp at Q0;omega)
  have Gu:r.src=b0::b1::t1:=by rw[Jn,LB]
  have Hc:=UInt8.toNat_lt b1
  have Sn:=NS.pv M7 (by omega)
  rw[show(ll K 0 14).2=23 from rfl]
  refine ad (sG (n:=23) (i:=1) (s:=7) (acc:=b0.toNat%128) (b:=b1) kt Sn.g0 Sn.g4 (by omega) (by omega) hv (by rw[Gu];rfl) (by have:=Sn.size;omega) (by omega) fun d0 RW hg10=>?_)
  have MM:=Sn.next RW (by omega) hg10
  rw[show(ny K 1 7 23).2=31 from rfl]
  refine ad (pM (n:=31) (i:=1) (b:=b1) kt MM.g0 MM.g4 hv (by rw[Gu];rfl) (by have:=MM.size;omega) (by omega) (fun Gq a' hd' h2' h3'=>⟨⟨hd'.trans MM.defers,?_,?_⟩,rfl⟩) (fun Hm Gq a' hp=>⟨rfl,(MM.pv hp (by omega)).g5,(MM.pv hp (by omega)).size,(MM.pv hp (by omega)).defers,?_,rfl⟩) (fun hge1 Qz c1 Ip=>?_))
  ·rw[h2',Gu];simp only[bI,show ¬ b0.toNat<128 by omega,Gq,if_true,if_false];congr 2;omega
  ·rw[h3',Gu];simp only[bI,show ¬ b0.toNat<128 by omega,Gq,if_true,if_false];rfl
  ·have ht:t1=[]:=by cases hh:t1 with|nil=>rfl|cons b t=>rw[Gu,hh]at Gq;simp only[List.length_cons]at Gq;omega
   rw[Gu,ht];simp only[bI,show ¬ b0.toNat<128 by omega,show ¬ b1.toNat<128 by omega,if_false]
  obtain⟨b2,t2,RP⟩:=lk (show 1<=t1.length by rw[Gu]at Qz;simp at Qz;omega)
  have G9:r.src=b0::b1::b2::t2:=by rw[Gu,RP]
  have Hj:=UInt8.toNat_lt b2
  have Sl:=MM.pv Ip (by omega)
  rw[show(ll K 1 31).2=40 from rfl]
  refine ad (sG (n:=40) (i:=2) (s:=14) (acc:=(b1.toNat%128*2^7+b0.toNat%128)) (b:=b2) kt Sl.g0 Sl.g4 (by omega) (by omega) hv (by rw[G9];rfl) (by have:=Sl.size;omega) (by omega) fun d1 Th Ms=>?_)
  have NP:=Sl.next Th (by omega) Ms
  rw[show(ny K 2 14 40).2=48 from rfl]
  refine ad (pM (n:=48) (i:=2) (b:=b2) kt NP.g0 NP.g4 hv (by rw[G9];rfl) (by have:=NP.size;omega) (by omega) (fun Gq a' hd' h2' h3'=>⟨⟨hd'.trans NP.defers,?_,?_⟩,rfl⟩) (fun Hm Gq a' hp=>⟨rfl,(NP.pv hp (by omega)).g5,(NP.pv hp (by omega)).size,(NP.pv hp (by omega)).defers,?_,rfl⟩) (fun hge2 O7 c2 JS=>?_))
  ·rw[h2',G9];simp only[bI,show ¬ b0.toNat<128 by omega,show ¬ b1.toNat<128 by omega,Gq,if_true,if_false];congr 2;omega
  ·rw[h3',G9];simp only[bI,show ¬ b0.toNat<128 by omega,show ¬ b1.toNat<128 by omega,Gq,if_true,if_false];rfl
  ·have ht:t2=[]:=by cases hh:t2 with|nil=>rfl|cons b t=>rw[G9,hh]at Gq;simp only[List.length_cons]at Gq;omega
   rw[G9,ht];simp only[bI,show ¬ b0.toNat<128 by omega,show ¬ b1.toNat<128 by omega,show ¬ b2.toNat<128 by omega,if_false]
  obtain⟨b3,t3,RO⟩:=lk (show 1<=t2.length by rw[G9]at O7;simp at O7;omega)
  have Hh:r.src=b0::b1::b2::b3::t3:=by rw[G9,RO]
  have JJ:=UInt8.toNat_lt b3
  have Sk:=NP.pv JS (by omega)
  rw[show(ll K 2 48).2=57 from rfl]
  refine ad (sG (n:=57) (i:=3) (s:=21) (acc:=(b2.toNat%128*2^14+(b1.toNat%128*2^7+b0.toNat%128))) (b:=b3) kt Sk.g0 Sk.g4 (by omega) (by omega) hv (by rw[Hh];rfl) (by have:=Sk.size;omega) (by omega) fun d2 PY hg12=>?_)
  have M3:=Sk.next PY (by omega) hg12
  rw[show(ny K 3 21 57).2=65 from rfl]
  refine ad (pM (n:=65) (i:=3) (b:=b3) kt M3.g0 M3.g4 hv (by rw[Hh];rfl) (by have:=M3.size;omega) (by omega) (fun Gq a' hd' h2' h3'=>⟨⟨hd'.trans M3.defers,?_,?_⟩,rfl⟩) (fun Hm Gq a' hp=>⟨rfl,(M3.pv hp (by omega)).g5,(M3.pv hp (by omega)).size,(M3.pv hp (by omega)).defers,?_,rfl⟩) (fun QJ Qy c3 Lt=>?_))
  ·rw[h2',Hh];simp only[bI,show ¬ b0.toNat<128 by omega,show ¬ b1.toNat<128 by omega,show ¬ b2.toNat<128 by omega,Gq,if_true,if_false];congr 2;omega
  ·rw[h3',Hh];simp only[bI,show ¬ b0.toNat<128 by omega,show ¬ b1.toNat<128 by omega,show ¬ b2.toNat<128 by omega,Gq,if_true,if_false];rfl
  ·have ht:t3=[]:=by cases hh:t3 with|nil=>rfl|cons b t=>rw[Hh,hh]at Gq;simp only[List.length_cons]at Gq;omega
   rw[Hh,ht];simp only[bI,show ¬ b0.toNat<128 by omega,show ¬ b1.toNat<128 by omega,show ¬ b2.toNat<128 by omega,show ¬ b3.toNat<128 by omega,if_false]
  obtain⟨b4,t4,N9⟩:=lk (show 1<=t3.length by rw[Hh]at Qy;simp at Qy;omega)
  have IP:r.src=b0::b1::b2::b3::b4::t4:=by rw[Hh,N9]
  have hb4:=UInt8.toNat_lt b4
  have P9:=M3.pv Lt (by omega)
  rw[show(ll K 3 65).2=74 from rfl]
  refine ad (Co (n:=74) (acc:=(b3.toNat%128*2^21+(b2.toNat%128*2^14+(b1.toNat%128*2^7+b0.toNat%128)))) (b:=b4) kt P9.g0 P9.g4 (by omega) hv (by rw[IP];rfl) (by have:=P9.size;omega) (by omega) fun d3 Tg Jt=>?_)
  have Ld:=P9.next Tg (by omega) Jt
  rw[show(xI K 74).2=81 from rfl]
  refine ad (D8 (n:=81) (b:=b4) kt Ld.g0 Ld.g4 hv (by rw[IP];rfl) (by have:=Ld.size;omega) (by omega) (fun Gq a' hd' h2' h3'=>⟨⟨hd'.trans Ld.defers,?_,?_⟩,rfl⟩) (fun LI e1 hq4=>?_))
  ·rw[h2',IP];simp only[bI,show ¬ b0.toNat<128 by omega,show ¬ b1.toNat<128 by omega,show ¬ b2.toNat<128 by omega,show ¬ b3.toNat<128 by omega,Gq,if_true,if_false];congr 2;omega
  ·rw[h3',IP];simp only[bI,show ¬ b0.toNat<128 by omega,show ¬ b1.toNat<128 by omega,show ¬ b2.toNat<128 by omega,show ¬ b3.toNat<128 by omega,Gq,if_true,if_false]
  have Pi:=Ld.pv hq4 (by omega)
  rw[show(Cp K 81).2=86 from rfl]
  refine ad (dH (x:=5) (m:=0) (k0:=0) (.inl rfl) (by have:=Pi.size;omega) fun e2 hr4 hg54=>ad (.label ?_))
  rw[show(aY (.label 0) (aU 5 (.int .i64 (-5)) 86).2).2=86 from rfl]
  refine xH (x:=-5) hg54 (by have:=hr4.size;have:=Pi.size;omega) (by omega) fun e3 H6 h23 h33=>⟨⟨H6.trans (hr4.defers.trans Pi.defers),?_,?_⟩,rfl⟩
  ·rw[h23,IP];simp only[bI,show ¬ b0.toNat<128 by omega,show ¬ b1.toNat<128 by omega,show ¬ b2.toNat<128 by omega,show ¬ b3.toNat<128 by omega,LI,if_false];rfl
  ·rw[h33,IP];simp only[bI,show ¬ b0.toNat<128 by omega,show ¬ b1.toNat<128 by omega,show ¬ b2.toNat<128 by omega,show ¬ b3.toNat<128 by omega,LI,if_false]
 ·obtain⟨h5,hs,hd,hu,rfl⟩:=hJ
  refine .seq (R:=Rt (fun a'' w''=>a''=a'/\w''=w') (fun _ _=>False)) (.skip ⟨rfl,rfl⟩) (fun a2 w2 hh=>?_) (fun e a w he hq=>by cases e<;>first|exact absurd rfl he|exact hq.elim)
  obtain⟨rfl,rfl⟩:=hh
  exact xH h5 (by omega) (by omega) fun a3 H6 h2 h3=>⟨⟨H6.trans hd,by rw[h2,hu];rfl,by rw[h3,hu]⟩,rfl⟩
end
theorem sB (l:Bs):(bI l).2<=(l.length:Int):=by
 unfold bI
 split
 ·simp
 ·split
  ·simp only[List.length_cons];omega
  ·split
   ·simp
   ·split
    ·simp only[List.length_cons];omega
    ·split
     ·simp
     ·split
      ·simp only[List.length_cons];omega
      ·split
       ·simp
       ·split
        ·simp only[List.length_cons];omega
        ·split
         ·simp
         ·split
          ·simp only[List.length_cons];omega
          ·simp only[List.length_cons];omega
section
variable {P:Program} {g:G} {K:Kn} {T S R:Nat} {r:RS} {w:World}
theorem uv_calls (kt:KT P g K){f ntmps nIn:Nat}(Wp:FnIs P K.fUv nIn [2,3] (cUvIn K))(T5:87<=nIn)(hfn:FnIs P f ntmps [2] (cUv K))(G8:31<=ntmps)(hR:cQ w T S R r)(hRS:S≠R) :
  Calls P f #[pt R 0] w fun e w'=>e=.returned (.int .u32 (bD r).1)/\cQ w' T S R (bD r).2/\ac (·=R) w w':=by
 refine iL kt.mixed hfn (by omega) fun a h0 hs hd=>?_
 obtain⟨v,hv⟩:=hR
 refine ad (dH (x:=2) (m:=0) (k0:=0) (.inl rfl) (by omega) fun a1 Gk _=>?_)
 have Gu:=Gk.size
 rw[show(aU 2 (.int .u32 0) 6).2=6 from rfl]
 refine ad (au (kz kt (gh Gk h0 (by omega) (by omega)) hv (by omega) fun a2 Gm G2=>?_))
 have G9:=Gm.size
 refine aR (vs:=#[v]) Wp.ent (by simp[aa,G2]) (sD kt Wp T5 hv.2) fun e w' HP=>?_
 obtain⟨he,rfl⟩:=HP
 refine⟨_,he,?_⟩
 generalize hx:(bI r.src).1=x
 generalize hy:(bI r.src).2=y
 refine ag ?_
 rw[aa,am (by omega)]
 refine aD (v:=.int .u32 (x:Int)) (w':=w') ?_ ?_
 ·have:((a2.put (some (6+4)) (.tuple #[.int .u32 (x:Int),.int .i64 y])).put (some 5) (.tuple #[.int .u32 (x:Int),.int .i64 y])).eval (tm 5)=.tuple #[.int .u32 (x:Int),.int .i64 y]:=by rw[aa,am (by simp only[ab];omega)]
  simp[execOp,mk,this,Instr.extract]
 refine aD (v:=.int .i64 y) (w':=w') ?_ ?_
 ·have:(((a2.put (some (6+4)) (.tuple #[.int .u32 (x:Int),.int .i64 y])).put (some 5) (.tuple #[.int .u32 (x:Int),.int .i64 y])).put (some (6+5)) (.int .u32 (x:Int))).eval (tm 5)=.tuple #[.int .u32 (x:Int),.int .i64 y]:=by rw[aa,ak (by omega),am (by simp only[ab];omega)]
  simp[execOp,mk,this,Instr.extract]
 refine aj (aj (wpList_nil ?_))
 rw[aa,ak (by omega),am (by simp only[ab];omega),aa,ak (by omega),am (by simp only[ab];omega)]
 have e0:((((((a2.put (some (6+4)) (.tuple #[.int .u32 (x:Int),.int .i64 y])).put (some 5) (.tuple #[.int .u32 (x:Int),.int .i64 y])).put (some (6+5)) (.int .u32 (x:Int))).put (some (6+6)) (.int .i64 y)).put (some 3) (.int .u32 (x:Int))).put (some 4) (.int .i64 y)).get 0=pt R 0:=by
  rw[ak (by omega),ak (by omega),ak (by omega),ak (by omega),ak (by omega),ak (by omega)]
  exact gh Gm (gh Gk h0 (by omega) (by omega)) (by omega) (by omega)
 have e3:((((((a2.put (some (6+4)) (.tuple #[.int .u32 (x:Int),.int .i64 y])).put (some 5) (.tuple #[.int .u32 (x:Int),.int .i64 y])).put (some (6+5)) (.int .u32 (x:Int))).put (some (6+6)) (.int .i64 y)).put (some 3) (.int .u32 (x:Int))).put (some 4) (.int .i64 y)).get 3=.int .u32 (x:Int):=by
  rw[ak (by omega),am (by simp only[ab];omega)]
 have e4:((((((a2.put (some (6+4)) (.tuple #[.int .u32 (x:Int),.int .i64 y])).put (some 5) (.tuple #[.int .u32 (x:Int),.int .i64 y])).put (some (6+5)) (.int .u32 (x:Int))).put (some (6+6)) (.int .i64 y)).put (some 3) (.int .u32 (x:Int))).put (some 4) (.int .i64 y)).get 4=.int .i64 y:=am (by simp only[ab];omega)
 have es:((((((a2.put (some (6+4)) (.tuple #[.int .u32 (x:Int),.int .i64 y])).put (some 5) (.tuple #[.int .u32 (x:Int),.int .i64 y])).put (some (6+5)) (.int .u32 (x:Int))).put (some (6+6)) (.int .i64 y)).put (some 3) (.int .u32 (x:Int))).put (some 4) (.int .i64 y)).tmps.size=ntmps:=by simp only[ab];omega
 have ed:((((((a2.put (some (6+4)) (.tuple #[.int .u32 (x:Int),.int .i64 y])).put (some 5) (.tuple #[.int .u32 (x:Int),.int .i64 y])).put (some (6+5)) (.int .u32 (x:Int))).put (some (6+6)) (.int .i64 y)).put (some 3) (.int .u32 (x:Int))).put (some 4) (.int .i64 y)).defers=[]:=by
  simp only[ai];rw[Gm.defers,Gk.defers];exact hd
 generalize((((((a2.put (some (6+4)) (.tuple #[.int .u32 (x:Int),.int .i64 y])).put (some 5) (.tuple #[.int .u32 (x:Int),.int .i64 y])).put (some (6+5)) (.int .u32 (x:Int))).put (some (6+6)) (.int .i64 y)).put (some 3) (.int .u32 (x:Int))).put (some 4) (.int .i64 y))=a3 at e0 e3 e4 es ed ⊢
 show LW P [ej 1 2 (fun n=>[mk (some n) (.move (tm 4)),mk (some (n+1)) (.binOp .leq K.tInt (tm n) (ki .i64 0) 0)]) (rS K (.int .u32 0)) b6,mq K 4,bB 3 2,aY .ret] 13 _ a3 w'
 refine ad ?_
 rw[aV]
 have key:∀ (b:Bool) (K':Act->World->Prop) (Q':Exit->Act->World->Prop),b=decide (y<=0)->(∀ a',a'.eval (tm (13+1))=.bool b->Pv 13 0 0 13 a3 a'->K' a' w') ->
   wpList P [mk (some 13) (.move (tm 4)),mk (some (13+1)) (.binOp .leq K.tInt (tm 13) (ki .i64 0) 0)].toArray (Exit.then K' Q') [mk (some 13) (.move (tm 4)),mk (some (13+1)) (.binOp .leq K.tInt (tm 13) (ki .i64 0) 0)] a3 w':=by
  intro b K' Q' hb hK
  refine ag ?_
  rw[aa,e4]
  refine bt (b:=b) (p:=y) (q:=0) (k:=.i64) (by rw[aa,am (by omega)]) rfl (.inr (.inl ⟨rfl,hb⟩)) (wpList_nil (hK _ ?_ (((Pv.refl _ _ _ _ _).put _ (by omega)).put _ (by omega))))
  rw[aa,am (by simp only[ab];omega)]
 by_cases G5:y<=0
 ·have hr:bD r=(0,.fail):=by simp only[bD,hy,G5,if_true]
  rw[hr]
  refine dt (key true _ _ (by simp[G5]) fun a' he hp=>⟨he,?_⟩)
  have hs':=hp.size
  exact tZ kt ((hp.get 0 (by omega) (.inr ⟨by omega,by omega⟩)).trans e0) hv hRS (by omega) (by omega) fun a4 w4 KF Ht H0 GH=>⟨KF.trans (hp.defers.trans ed),by rw[Ht];rfl,H0,GH⟩
 ·have hr:bD r=(x,⟨r.src.drop y.toNat,r.bad,r.nl⟩):=by simp only[bD,hy,hx,G5,if_false]
  rw[hr]
  have Gp:=sB r.src
  rw[hy]at Gp
  obtain⟨k,rfl⟩:∃ k:Nat,y=(k:Int):=⟨y.toNat,by omega⟩
  refine dg (key false _ _ (by simp;omega) fun a' he hp=>⟨he,.skip ?_⟩)
  have hs':=hp.size
  show LW P [mq K 4,bB 3 2,aY .ret] 21 _ a' w'
  refine ad (zx kt (k:=k) (l:=4) ((hp.get 0 (by omega) (.inr ⟨by omega,by omega⟩)).trans e0) ((hp.get 4 (by omega) (.inr ⟨by omega,by omega⟩)).trans e4) hv (by omega) hRS (by omega) (by omega) (by omega) fun a5 HB Mc=>?_)
  have Nd:=HB.size
  rw[show(mq K 4 21).2=30 from rfl]
  refine ad (eH (x:=2) (m:=0) (k0:=0) (.inl rfl) (Nat.le_refl _) (by omega) (by omega) (by omega) fun a6 hp6 OK=>ad (.ret ⟨?_,?_,?_,ac.setRow (fun k=>k=R) _ _ _ rfl⟩))
  ·rw[hp6.defers,HB.defers,hp.defers];exact ed
  ·rw[OK,HB.get 3 (by omega) (.inr ⟨by omega,by omega⟩),hp.get 3 (by omega) (.inr ⟨by omega,by omega⟩),e3]
  ·simpa using Mc
end
theorem wM {e e':aP}(h:e.entry=e'.entry):e=e':=by
 obtain⟨k,v,b⟩:=e
 obtain⟨k',v',b'⟩:=e'
 simp only[aP.entry,MapEntry.mk.injEq,Value.int.injEq,true_and]at h
 obtain⟨h1,h2,h3⟩:=h
 have:k=k':=by omega
 subst this h2 h3
 rfl
theorem jR:∀ {l l':List aP},l.map aP.entry=l'.map aP.entry->l=l'
 | [],[],_=>rfl
 | [],_::_,h=>by simp at h
 | _::_,[],h=>by simp at h
 | e::l,e'::l',h=>by
  simp only[List.map_cons,List.cons.injEq]at h
  rw[wM h.1,jR h.2]
section
variable {w w':World} {X:Nat->Prop} {r key:Nat} {t:List (Nat × Bs)} {value:Value} {l:Bs} {es:List aP} {clock:Nat}
theorem tO (h:iA w X r t)(hb:w.heap[r]?=some (.map (es.map aP.entry).toArray clock))(Jp:∀ e∈es,e.key≠key)(hk:key<4294967296)(hv:cO w (fun k=>X k \/ k=r) value l)(IR:ac (·=r) w w')
  (M2:w'.heap[r]?=some (.map ((es++[(⟨key,value,clock⟩:aP)]).map aP.entry).toArray (clock+1))):iA w' X r (cp key l t):=by
 obtain⟨es2,c2,f,h1,h2,h3,h4,h5,h6⟩:=h
 rw[hb]at h1
 simp only[Option.some.injEq,Obj.map.injEq]at h1
 obtain⟨he,rfl⟩:=h1
 have Ij:=jR (by simpa using congrArg Array.toList he)
 subst Ij
 have Q3:ac (fun k=>X k \/ k=r) w w':=IR.mono fun _ _ h=>.inr h
 have Ie:∀ e∈es,¬ e.born=clock:=fun e hm hh=>by have:=(h2 e hm).2.1;omega
 refine⟨es++[⟨key,value,clock⟩],clock+1,fun e=>if e.born=clock then l else f e,M2,fun e hm=>?_,?_,?_,?_,iC _ _ _ h6⟩
 ·rcases List.mem_append.1 hm with hm|hm
  ·obtain⟨e1,e2,e3⟩:=h2 e hm
   refine⟨e1,by omega,?_⟩
   show cO w' _ e.val (if e.born=clock then l else f e)
   rw[if_neg (Ie e hm)]
   exact e3.keep Q3
  ·obtain rfl:=List.mem_singleton.1 hm
   exact⟨hk,by simp,by simpa using hv.keep Q3⟩
 ·rw[List.map_append,List.nodup_append]
  exact⟨h3,by simp,fun a ha b Hj=>by
   obtain⟨e,hm,rfl⟩:=List.mem_map.1 ha
   simp at Hj
   have:=(h2 e hm).2.1
   omega⟩
 ·rw[List.map_append,List.nodup_append]
  exact⟨h4,by simp,fun a ha b Hj=>by
   obtain⟨e,hm,rfl⟩:=List.mem_map.1 ha
   simp at Hj
   rw[Hj]
   exact Jp e hm⟩
 ·have IH:(es++[(⟨key,value,clock⟩:aP)]).map (fun e=>(e.key,if e.born=clock then l else f e))=es.map (fun e=>(e.key,f e))++[(key,l)]:=by
   rw[List.map_append]
   congr 1
   ·exact List.map_congr_left fun e hm=>by rw[if_neg (Ie e hm)]
   ·simp
  rw[IH]
  refine List.Perm.trans (List.perm_append_comm) ?_
  refine List.Perm.trans (List.Perm.cons (key,l) h5) (List.Perm.symm (nD key l t fun y hy=>?_))
  obtain⟨e,hm,Vs⟩:=List.mem_map.1 (h5.symm.subset hy)
  rw[<- Vs]
  exact Jp e hm
theorem wF {j:Nat}{e0:aP}(h:iA w X r t)(hb:w.heap[r]?=some (.map (es.map aP.entry).toArray clock))(hj:es[j]?=some e0)(Hk:e0.key=key)(hk:key<4294967296)(hv:cO w (fun k=>X k \/ k=r) value l)(IR:ac (·=r) w w')
  (M2:w'.heap[r]?=some (.map ((es.set j (⟨key,value,e0.born⟩:aP)).map aP.entry).toArray clock)):iA w' X r (cp key l t):=by
 obtain⟨es2,c2,f,h1,h2,h3,h4,h5,h6⟩:=h
 rw[hb]at h1
 simp only[Option.some.injEq,Obj.map.injEq]at h1
 obtain⟨he,rfl⟩:=h1
 have Ij:=jR (by simpa using congrArg Array.toList he)
 subst Ij
 have Q3:ac (fun k=>X k \/ k=r) w w':=IR.mono fun _ _ h=>.inr h
 obtain⟨HY,Se⟩:=List.getElem?_eq_some_iff.1 hj
 have J9:e0∈es:=Se ▸ List.getElem_mem HY
 have Lm:(es.set j (⟨key,value,e0.born⟩:aP)).map aP.born=es.map aP.born:=by
  rw[List.map_set]
  have:(es.map aP.born)[j]?=some e0.born:=by simp[hj]
  exact List.ext_getElem? fun i=>by
   rw[List.getElem?_set]
   split
   ·rename_i hi;subst hi;simp[HY,Se]
   ·rfl
 have JF:(es.set j (⟨key,value,e0.born⟩:aP)).map aP.key=es.map aP.key:=by
  rw[List.map_set]
  exact List.ext_getElem? fun i=>by
   rw[List.getElem?_set]
   split
   ·rename_i hi;subst hi;simp[HY,Se,Hk]
   ·rfl
 have N8:∀ i e,es[i]?=some e->e.key=key->i=j:=fun i e hi LG=>by
  have e1:(es.map aP.key)[i]?=some key:=by simp[hi,LG]
  have e2:(es.map aP.key)[j]?=some key:=by simp[hj,Hk]
  obtain⟨Mq,VR⟩:=List.getElem?_eq_some_iff.1 e1
  obtain⟨Q7,Q6⟩:=List.getElem?_eq_some_iff.1 e2
  have hp:=List.pairwise_iff_getElem.1 h4
  rcases Nat.lt_trichotomy i j with h|h|h
  ·exact absurd (VR.trans Q6.symm) (hp i j Mq Q7 h)
  ·exact h
  ·exact absurd (Q6.trans VR.symm) (hp j i Q7 Mq h)
 refine⟨es.set j ⟨key,value,e0.born⟩,clock,fun e=>if e.key=key then l else f e,M2,fun e hm=>?_,by rw[Lm];exact h3,by rw[JF];exact h4,?_,iC _ _ _ h6⟩
 ·obtain⟨i,hi⟩:=List.getElem?_of_mem hm
  rw[List.getElem?_set]at hi
  split at hi
  ·rename_i HL
   subst HL
   simp only[Option.some.injEq]at hi
   subst hi
   exact⟨hk,(h2 e0 J9).2.1,by simpa using hv.keep Q3⟩
  ·rename_i HL
   have TA:e∈es:=List.mem_of_getElem? hi
   obtain⟨e1,e2,e3⟩:=h2 e TA
   refine⟨e1,e2,?_⟩
   show cO w' _ e.val (if e.key=key then l else f e)
   rw[if_neg (fun LG=>HL (N8 i e hi LG).symm)]
   exact e3.keep Q3
 ·have IH:(es.set j (⟨key,value,e0.born⟩:aP)).map (fun e=>(e.key,if e.key=key then l else f e))=(es.map (fun e=>(e.key,f e))).map fun p=>if p.1=key then(key,l)else p:=by
   rw[List.map_map]
   refine List.ext_getElem? fun i=>?_
   simp only[List.getElem?_map,List.getElem?_set]
   by_cases HL:j=i
   ·subst HL
    simp[HY,Se,Hk]
   ·rw[if_neg HL]
    cases hi:es[i]? with
    | none=>rfl
    | some e=>
     have LG:¬ e.key=key:=fun LG=>HL (N8 i e hi LG).symm
     simp[LG]
  rw[IH,nC key l t h6]
  ·exact h5.map _
  ·have:(e0.key,f e0)∈t:=h5.subset (List.mem_map.2 ⟨e0,J9,rfl⟩)
   exact⟨_,this,Hk⟩
end
def cSet (g:G)(tM:Nat):Code:=(gS [ej 4 5 (fun n=>[mk (some n) (.move (tm 0)),mk (some (n+1)) (.nilCheck (tm n)),mk (some (n+2)) (.fieldAddr g.tTags (tm (n+1)) 0),mk (some (n+3)) (.load tM (tm (n+2))),mk (some (n+4)) (.binOp .eql tM (tm (n+3)) (.const (.map none)) 0)])
  (aA 4 fun n=>[mk (some n) (.move (tm 0)),mk (some (n+1)) (.makeMap tM none),mk (some (n+2)) (.nilCheck (tm n)),mk (some (n+3)) (.fieldAddr g.tTags (tm (n+2)) 0),mk none (.store tM (tm (n+3)) (tm (n+1)))]) b6,
 aA 6 fun n=>[mk (some n) (.move (tm 0)),mk (some (n+1)) (.nilCheck (tm n)),mk (some (n+2)) (.fieldAddr g.tTags (tm (n+1)) 0),mk (some (n+3)) (.load tM (tm (n+2))),mk (some (n+4)) (.move (tm 1)),mk (some (n+5)) (.move (tm 2)),mk none (.mapUpdate tM (tm (n+3)) (tm (n+4)) (tm (n+5)))]] 6).1
section
variable {P:Program} {g:G} {w:World} {a:Act}
theorem kU {ops:Array Oper}{Q:Exit->Act->World->Prop}{l:List Oper}{tM:Nat}{x y z:Operand}{m k v:Value}{w':World}(hx:a.eval x=m)(hy:a.eval y=k)(hz:a.eval z=v)(hr:(Instr.mapUpdate tM m k v).run P w=.ok () w')(h:wpList P ops Q l a w') :
  wpList P ops Q (mk none (.mapUpdate tM x y z)::l) a w:=by
 refine u0 (w':=w') ?_ h
 simp[execOp,mk,hx,hy,hz,hr]
theorem s7 {ops:Array Oper}{Q:Exit->Act->World->Prop}{l:List Oper}{d:Option Nat}{tM:Nat}(h:wpList P ops Q l (a.put d (.map (some w.heap.size))) (w.alloc (.map #[] 0))):wpList P ops Q (mk d (.makeMap tM none)::l) a w:=by
 refine aD (w':=w.alloc (.map #[] 0)) ?_ h
 have:(Instr.makeMap tM none).run P w=.ok (.map (some w.heap.size)) (w.alloc (.map #[] 0)):=rfl
 simp[execOp,mk,this]
theorem oG {ops:Array Oper}{Q:Exit->Act->World->Prop}{l:List Oper}{d:Option Nat}{tM kt et:Nat}{x:Operand}{m:Option Nat}(hM:P.underlying tM=some (.map kt et))(hx:a.eval x=.map m)(h:wpList P ops Q l (a.put d (.bool m.isNone)) w) :
  wpList P ops Q (mk d (.binOp .eql tM x (.const (.map none)) 0)::l) a w:=by
 refine aD ?_ h
 have hc:a.eval (.const (.map none))=.map none:=rfl
 have he:(eqGuard .eql tM x (.const (.map none)) (.map m) (.map none)).run P w=.ok () w:=by simp[eqGuard]
 have hr:(binOp .eql tM (.map m) (.map none)).run P w=.ok (.bool m.isNone) w:=by
  have h1:(Op.equal tM (.map m) (.map none)).run P w=.ok m.isNone w:=by
   cases m with
   | none=>exact(show(Op.equalIn (9999+1) tM (.map none) (.map none)).run P w=_ from by
     have:∀ d:Nat,(Op.equalIn (d+1) tM (.map none) (.map none)).run P w=.ok true w:=fun d=>by simp[Op.equalIn,run_underlying hM]
     exact this 9999)
   | some r=>exact(show(Op.equalIn (9999+1) tM (.map (some r)) (.map none)).run P w=_ from by
     have:∀ d:Nat,(Op.equalIn (d+1) tM (.map (some r)) (.map none)).run P w=.ok false w:=fun d=>by simp[Op.equalIn,run_underlying hM]
     exact this 9999)
  simp[binOp,h1]
 simp only[execOp,mk,hx,hc,Sem.run_bind,he,Result.andThen_ok,hr,Sem.run_pure]
theorem rx {KK:Act->World->Prop}{Q:Exit->Act->World->Prop}{n tM kt et B o q k clock te:Nat}{v:Value}{cur:Array Value}{es:List aP}(hM:P.underlying tM=some (.map kt et))(hK:P.underlying kt=some (.int .u32))(hF:bp P g.tTags 0 tM 0 false 1)(h0:a.get 0=pt B o)(h1:a.get 1=.int .u32 k)(h2:a.get 2=v)
  (hk:k<4294967296) (hB:w.heap[B]?=some (.cells cur te (0,0))) (hO:cur[o]?=some (.map (some q))) (hq:w.heap[q]?=some (.map (es.map aP.entry).toArray clock)) (hn:n+6<=a.tmps.size) (Po:3<=n)
  (h:∀ a' w',a'.defers=a.defers->ac (·=q) w w'->(∀ (X:Nat->Prop) (t:List (Nat × Bs)) (l:Bs),iA w X q t->cO w (fun b=>X b \/ b=q) v l->iA w' X q (cp k l t))->KK a' w') :
  aQ P (aA 6 (fun n=>[mk (some n) (.move (tm 0)),mk (some (n+1)) (.nilCheck (tm n)),mk (some (n+2)) (.fieldAddr g.tTags (tm (n+1)) 0),mk (some (n+3)) (.load tM (tm (n+2))),mk (some (n+4)) (.move (tm 1)),mk (some (n+5)) (.move (tm 2)),mk none (.mapUpdate tM (tm (n+3)) (tm (n+4)) (tm (n+5)))]) n).1 (Exit.then KK Q) a w:=by
 have hc:w.cell? ⟨B,o+0,none⟩=some (.map (some q)):=by simp only[World.cell?,hB];simpa using hO
 refine au (ag ?_)
 rw[aa,h0]
 refine aL (by rw[aa,am (by omega)];rfl) ?_
 refine bR (by rw[aa,am (by simp only[ab];omega)]) hF ?_
 refine b5 (by rw[aa,am (by simp only[ab];omega)]) (hF.var.agg _) hc ?_
 refine ag ?_
 rw[aa,ak (by omega),ak (by omega),ak (by omega),ak (by omega),h1]
 refine ag ?_
 rw[aa,ak (by omega),ak (by omega),ak (by omega),ak (by omega),ak (by omega),h2]
 have Ti:q<w.heap.size:=(Array.getElem?_eq_some_iff.1 hq).1
 have IR:∀ ob:Obj,ac (·=q) w { w with heap:=w.heap.setIfInBounds q ob }:=fun ob=>⟨rfl,rfl,rfl,by simp,fun i _ hi=>by
  show(w.heap.setIfInBounds q ob)[i]?=_
  rw[Array.getElem?_setIfInBounds,if_neg (fun h=>hi h.symm)]⟩
 have Ha:∀ ob:Obj,({ w with heap:=w.heap.setIfInBounds q ob }:World).heap[q]?=some ob:=fun ob=>by
  show(w.heap.setIfInBounds q ob)[q]?=_
  rw[Array.getElem?_setIfInBounds,if_pos rfl,if_pos Ti]
 rcases sX (key:=k) (value:=v) hM hK hq with⟨Jp,hr⟩|⟨j,e,hj,LG,hr⟩
 ·refine kU (by rw[aa,ak (by omega),ak (by omega),am (by simp only[ab];omega)]) (by rw[aa,ak (by omega),am (by simp only[ab];omega)]) (by rw[aa,am (by simp only[ab];omega)]) hr (wpList_nil (h _ _ (by simp only[ai]) (IR _) fun X t l Qs G7=>?_))
  exact tO Qs hq Jp hk G7 (IR _) (Ha _)
 ·refine kU (by rw[aa,ak (by omega),ak (by omega),am (by simp only[ab];omega)]) (by rw[aa,ak (by omega),am (by simp only[ab];omega)]) (by rw[aa,am (by simp only[ab];omega)]) hr (wpList_nil (h _ _ (by simp only[ai]) (IR _) fun X t l Qs G7=>?_))
  exact wF Qs hq hj LG hk G7 (IR _) (Ha _)
theorem cO.and {X Y:Nat->Prop}{v:Value}{l:Bs}(h:cO w X v l)(k:cO w Y v l):cO w (fun b=>X b \/ Y b) v l:=by
 rcases h with h|⟨b,o,c,h1,h2,h3⟩
 ·exact .inl h
 ·rcases k with k|⟨b',o',c',k1,k2,_⟩
  ·exact .inl k
  ·rw[h1]at k1
   simp only[Value.slice.injEq,Option.some.injEq,Addr.mk.injEq]at k1
   obtain⟨⟨rfl,_⟩,_⟩:=k1
   exact .inr ⟨b,o,c,h1,fun h=>h.elim h2 k2,h3⟩
theorem set_calls (hm:P.follows .mixedOrders=true){f ntmps tM kt et:Nat}(hfn:FnIs P f ntmps [] (cSet g tM))(G8:21<=ntmps)(hM:P.underlying tM=some (.map kt et))(hK:P.underlying kt=some (.int .u32))(hF:bp P g.tTags 0 tM 0 false 1)
  {B o k:Nat} {m:Value} {t:List (Nat × Bs)} {v:Value} {l:Bs} {cur:Array Value} {te:TypeId} (hk:k<4294967296) (hB:w.heap[B]?=some (.cells cur te (0,0))) (hO:cur[o]?=some m) (ht:cN w (·=B) m t) (Lh:cO w (·=B) v l) :
  Calls P f #[pt B o,.int .u32 k,v] w fun e w'=>e=.returned (.tuple #[])/\∃ (q:Nat) (w1:World),w'=w1/\ac (fun b=>b=B \/ b=q) w w'/\(m=.map none->q=w.heap.size)/\(∀ r,m=.map (some r)->q=r) /\
   w'.heap[B]?=some (.cells (cur.setIfInBounds o (.map (some q))) te (0,0))/\∀ X:Nat->Prop,¬ X q->(∀ k,X k->k<w.heap.size)->cO w (fun k=>X k \/ k=q) v l->cN w X m t->cN w' X (.map (some q)) (cp k l t):=by
 refine hfn.calls hm (by simp) ?_
 have G0:=cH #[pt B o,.int .u32 k,v] ntmps (by show 3<=ntmps;omega)
 have HS:({ tmps:=#[pt B o,.int .u32 k,v]++Array.replicate (ntmps-(#[pt B o,.int .u32 k,v]:Array Value).size) undef,defers:=[] }:Act).get 0=pt B o:=by rw[bX _ _ _ (by simp)];rfl
 have Gv:({ tmps:=#[pt B o,.int .u32 k,v]++Array.replicate (ntmps-(#[pt B o,.int .u32 k,v]:Array Value).size) undef,defers:=[] }:Act).get 1=.int .u32 k:=by rw[bX _ _ _ (by simp)];rfl
 have G2:({ tmps:=#[pt B o,.int .u32 k,v]++Array.replicate (ntmps-(#[pt B o,.int .u32 k,v]:Array Value).size) undef,defers:=[] }:Act).get 2=v:=by rw[bX _ _ _ (by simp)];rfl
 have hd:({ tmps:=#[pt B o,.int .u32 k,v]++Array.replicate (ntmps-(#[pt B o,.int .u32 k,v]:Array Value).size) undef,defers:=[] }:Act).defers=[]:=rfl
 have hs:({ tmps:=#[pt B o,.int .u32 k,v]++Array.replicate (ntmps-(#[pt B o,.int .u32 k,v]:Array Value).size) undef,defers:=[] }:Act).tmps.size=ntmps:=G0
 generalize({ tmps:=#[pt B o,.int .u32 k,v]++Array.replicate (ntmps-(#[pt B o,.int .u32 k,v]:Array Value).size) undef,defers:=[] }:Act)=a at HS Gv G2 hd hs ⊢
 have Ws:B<w.heap.size:=(Array.getElem?_eq_some_iff.1 hB).1
 have O2:o<cur.size:=(Array.getElem?_eq_some_iff.1 hO).1
 have hc:w.cell? ⟨B,o+0,none⟩=some m:=by simp only[World.cell?,hB];simpa using hO
 obtain⟨mm,rfl⟩:∃ mm,m=.map mm:=by
  rcases ht with⟨h,_⟩|⟨r,h,_⟩
  ·exact⟨none,h⟩
  ·exact⟨some r,h⟩
 refine bm (ad ?_)
 have key:∀ (K':Act->World->Prop) (Q':Exit->Act->World->Prop),(∀ a',a'.eval (tm (6+4))=.bool mm.isNone->Pv 6 0 0 6 a a'->K' a' w) ->
   wpList P [mk (some 6) (.move (tm 0)),mk (some (6+1)) (.nilCheck (tm 6)),mk (some (6+2)) (.fieldAddr g.tTags (tm (6+1)) 0),mk (some (6+3)) (.load tM (tm (6+2))),mk (some (6+4)) (.binOp .eql tM (tm (6+3)) (.const (.map none)) 0)].toArray (Exit.then K' Q')
   [mk (some 6) (.move (tm 0)),mk (some (6+1)) (.nilCheck (tm 6)),mk (some (6+2)) (.fieldAddr g.tTags (tm (6+1)) 0),mk (some (6+3)) (.load tM (tm (6+2))),mk (some (6+4)) (.binOp .eql tM (tm (6+3)) (.const (.map none)) 0)] a w:=by
  intro K' Q' hK'
  refine ag ?_
  rw[aa,HS]
  refine aL (by rw[aa,am (by omega)];rfl) ?_
  refine bR (by rw[aa,am (by simp only[ab];omega)]) hF ?_
  refine b5 (by rw[aa,am (by simp only[ab];omega)]) (hF.var.agg _) hc ?_
  refine oG hM (by rw[aa,am (by simp only[ab];omega)]) (wpList_nil (hK' _ (by rw[aa,am (by simp only[ab];omega)]) ((((((Pv.refl _ _ _ _ _).put _ (by omega)).put _ (by omega)).put _ (by omega)).put _ (by omega)).put _ (by omega))))
 cases mm with
 | none=>
  refine dt (key _ _ fun a1 he hp=>⟨he,?_⟩)
  have Gu:=hp.size
  have Wy:a1.get 0=pt B o:=(hp.get 0 (by omega) (.inr ⟨by omega,by omega⟩)).trans HS
  refine au (ag ?_)
  rw[aa,Wy]
  refine s7 ?_
  refine aL (by rw[aa,ak (by omega),am (by omega)];rfl) ?_
  refine bR (by rw[aa,am (by simp only[ab];omega)]) hF ?_
  have JL:(w.alloc (.map #[] 0)).heap[B]?=some (.cells cur te (0,0)):=by rw[bA Ws];exact hB
  refine bw (cur:=cur) (t:=te) (v:=.map (some w.heap.size)) (vs:=[.map (some w.heap.size)]) (by rw[aa,am (by simp only[ab];omega)]) (by rw[aa,ak (by omega),ak (by omega),am (by simp only[ab];omega)]) rfl (hF.var.size _) JL (by simp only[List.length_cons,List.length_nil];omega) (fun u hu=>by simp at hu;rw[hu];rfl) (wpList_nil ?_)
  have e1:aI cur (o+0) [.map (some w.heap.size)]=cur.setIfInBounds o (.map (some w.heap.size)):=il O2
  rw[e1]
  have J3:((w.alloc (.map #[] 0)).setRow B (cur.setIfInBounds o (.map (some w.heap.size)))).heap[B]?=some (.cells (cur.setIfInBounds o (.map (some w.heap.size))) te (0,0)):=setRow_heap _ _ _ _ _ _ JL
  have JS:((w.alloc (.map #[] 0)).setRow B (cur.setIfInBounds o (.map (some w.heap.size)))).heap[w.heap.size]?=some (.map (([]:List aP).map aP.entry).toArray 0):=by rw[setRow_other _ _ _ _ (by omega)];exact heap_alloc_new _ _
  have Gs:ac (fun b=>b=B) w ((w.alloc (.map #[] 0)).setRow B (cur.setIfInBounds o (.map (some w.heap.size)))):=(ac.alloc (fun b=>b=B) w _).trans (ac.setRow (fun b=>b=B) _ _ _ rfl)
  have Lq:((w.alloc (.map #[] 0)).setRow B (cur.setIfInBounds o (.map (some w.heap.size)))).heap.size=w.heap.size+1:=by simp
  generalize(w.alloc (.map #[] 0)).setRow B (cur.setIfInBounds o (.map (some w.heap.size)))=w2 at J3 JS Gs Lq ⊢
  refine ad (rx (v:=v) (k:=k) (cur:=cur.setIfInBounds o (.map (some w.heap.size))) (o:=o) (q:=w.heap.size) hM hK hF ?_ ?_ ?_ hk J3 (by simp[O2]) JS (by simp only[ab,ej,aA,b6,aY];omega) (by simp only[ej,aA,b6,aY];omega) fun a3 w3 H6 Gx IH=>bg ⟨?_,rfl,w.heap.size,w3,rfl,?_,fun _=>rfl,fun r h=>(by cases h),?_,fun X Pg hX G7 Hv=>?_⟩)
  ·rw[ak (by omega),ak (by omega),ak (by omega),ak (by omega)];exact Wy
  ·rw[ak (by omega),ak (by omega),ak (by omega),ak (by omega)];exact(hp.get 1 (by omega) (.inr ⟨by omega,by omega⟩)).trans Gv
  ·rw[ak (by omega),ak (by omega),ak (by omega),ak (by omega)];exact(hp.get 2 (by omega) (.inr ⟨by omega,by omega⟩)).trans G2
  ·rw[H6];simp only[ai];rw[hp.defers];exact hd
  ·exact(Gs.mono fun _ _ h=>.inl h).trans (Gx.mono fun _ _ h=>.inr h)
  ·rw[Gx.block B (by omega) (by omega)];exact J3
  ·rcases Hv with⟨_,rfl⟩|⟨r,h,_⟩
   ·refine .inr ⟨w.heap.size,rfl,Pg,by have:=Gx.size;omega,IH X [] l ⟨[],0,fun _=>[],JS,fun e he=>by simp at he,by simp,by simp,by simp,trivial⟩ ?_,oU _ _ _⟩
    exact((G7.and Lh).keep (Gs.mono fun _ _ h=>.inr h)).mono fun _ _ h=>.inl h
   ·cases h
 | some r=>
  refine dg (key _ _ fun a1 he hp=>⟨he,.skip ?_⟩)
  have Gu:=hp.size
  have hrB:¬ r=B/\∃ (es:List aP) (clock:Nat),w.heap[r]?=some (.map (es.map aP.entry).toArray clock):=by
   rcases ht with⟨h,_⟩|⟨r2,h,h1,_,⟨es,c,_,h2,_⟩,_⟩
   ·cases h
   ·cases h;exact⟨h1,es,c,h2⟩
  obtain⟨SZ,es,clock,hq⟩:=hrB
  refine ad (rx (cur:=cur) (o:=o) (q:=r) hM hK hF ((hp.get 0 (by omega) (.inr ⟨by omega,by omega⟩)).trans HS) ((hp.get 1 (by omega) (.inr ⟨by omega,by omega⟩)).trans Gv) ((hp.get 2 (by omega) (.inr ⟨by omega,by omega⟩)).trans G2) hk hB hO hq (by simp only[ej,aA,b6,aY];omega) (by simp only[ej,aA,b6,aY];omega) fun a3 w3 H6 Gx IH=>bg ⟨?_,rfl,r,w3,rfl,Gx.mono fun _ _ h=>.inr h,fun h=>(by cases h),fun r' h=>(by cases h;rfl),?_,fun X Pg hX G7 Hv=>?_⟩)
  ·rw[H6,hp.defers];exact hd
  ·rw[Gx.block B Ws (fun h=>SZ h.symm),hB]
   congr 2
   apply Array.ext_getElem?
   intro i
   rw[Array.getElem?_setIfInBounds]
   split
   ·rename_i hi;subst hi;first|exact hO.symm|(rw[if_pos O2];exact hO.symm)|exact hO
   ·rfl
  ·rcases Hv with⟨h,_⟩|⟨r2,h,_,h2,h3,_⟩
   ·cases h
   ·cases h
    exact .inr ⟨r,rfl,Pg,Nat.lt_of_lt_of_le h2 Gx.size,IH X t l h3 G7,oU _ _ _⟩
end
section
variable {P:Program} {g:G} {K:Kn}
structure TI (g:G)(S R p2 p3 ntmps:Nat)(w0:World)(fin:List (Nat × Bs) × RS)(c:Nat)(a:Act)(w:World):Prop where
 g0:a.get 0=pt R 0
 g2:a.get 2=pt p2 0
 g3:a.get 3=pt p3 0
 g4:a.get 4=.int .u32 c
 size:a.tmps.size=ntmps
 defers:a.defers=[]
 keeps:ac (·=R) w0 w
 b2:w.heap[p2]?=some (.cells #[.map none] g.tTags (0,0))
 ex:∃ t r mm,fW c t r=fin/\cQ w g.tR S R r/\w.heap[p3]?=some (.cells #[mm] g.tTags (0,0))/\(mm=.map none \/ ∃ q,mm=.map (some q)/\w0.heap.size+2<=q)/\∀ X:Nat->Prop,(∀ k,X k->k<w0.heap.size+2)->¬ X S->cN w X mm t
def SetOk (P:Program)(f:Nat):Prop:=
 ∀ (w:World) (B o:Nat) (m:Value) (t:List (Nat × Bs)) (k:Nat) (v:Value) (l:Bs) (cur:Array Value) (te:TypeId),k<4294967296->w.heap[B]?=some (.cells cur te (0,0))->cur[o]?=some m->cN w (·=B) m t->cO w (·=B) v l ->
  Calls P f #[pt B o,.int .u32 k,v] w fun e w'=>e=.returned (.tuple #[])/\∃ (q:Nat) (w1:World),w'=w1/\ac (fun b=>b=B \/ b=q) w w'/\(m=.map none->q=w.heap.size)/\(∀ r,m=.map (some r)->q=r) /\
   w'.heap[B]?=some (.cells (cur.setIfInBounds o (.map (some q))) te (0,0))/\∀ X:Nat->Prop,¬ X q->(∀ k,X k->k<w.heap.size)->cO w (fun k=>X k \/ k=q) v l->cN w X m t->cN w' X (.map (some q)) (cp k l t)
theorem vW {T:Nat}(kt:KT P g K)(ks:KSub P g K T)(Kh:bL g.uv=true)(J2:bL g.span=true)(hT:T=g.tR)(PT:Ent P g.set)(H9:SetOk P g.set){S R p2 p3 ntmps c:Nat}{w0 w:World}{fin:List (Nat × Bs) × RS}{a:Act}{KK:Act->World->Prop}{Q:Exit->Act->World->Prop}
  (Gm:p2=w0.heap.size) (Gt:p3=w0.heap.size+1) (hS:S<w0.heap.size) (hR:R<w0.heap.size) (hRS:S≠R) (G8:24<=ntmps) (hI:TI g S R p2 p3 ntmps w0 fin (c+1) a w)
  (h:∀ a' w',a'.get 4=.int .u32 ((c+1:Nat):Int)->(∀ a'',a''.get 0=a'.get 0->a''.get 2=a'.get 2->a''.get 3=a'.get 3->a''.get 4=.int .u32 c->a''.tmps.size=a'.tmps.size->a''.defers=a'.defers->TI g S R p2 p3 ntmps w0 fin c a'' w')->a'.tmps.size=ntmps->KK a' w') :
  aQ P (.seq (rg [mk (some 13) (.move (tm 0)),cl (some 14) g.uv [tm 13],mk (some 15) (.move (tm 0)),cl (some 16) g.uv [tm 15],mk (some 5) (.assign (tm 14)),mk (some 6) (.assign (tm 16))])
   (rg [mk (some 17) (.move (tm 5)),mk (some 18) (.move (tm 0)),mk (some 19) (.move (tm 6)),mk (some 20) (.convert K.tU32 K.tInt (tm 19)),cl (some 21) g.span [tm 18,tm 20],cl (some 22) g.set [tm 3,tm 17,tm 21]])) (Exit.then KK Q) a w:=by
 subst hT
 obtain⟨t,r,mm,K5,J0,JJ,IQ,Hv⟩:=hI.ex
 have hs:=hI.size
 refine .seq (R:=Exit.then (fun a1 w1=>∃ w',w1=w'/\(∀ s,s<5->a1.get s=a.get s)/\a1.get 5=.int .u32 (bD r).1/\a1.get 6=.int .u32 (bD (bD r).2).1/\a1.tmps.size=ntmps/\a1.defers=[]/\cQ w' g.tR S R (bD (bD r).2).2/\ac (·=R) w w') Q) (au ?_) (fun a1 w1 hh=>?_) (fun e a w he hq=>by rw[cA he]at hq ⊢;exact hq)
 ·refine ag ?_
  rw[aa,hI.g0]
  refine aR (vs:=#[pt R 0]) (ks.eU Kh) (by simp[aa,am (show 13<a.tmps.size by omega)]) (ks.cU Kh w S R r J0 hRS) fun e w1 hR1=>⟨_,hR1.1,?_⟩
  refine ag ?_
  rw[aa,ak (by omega),ak (by omega),hI.g0]
  refine aR (vs:=#[pt R 0]) (ks.eU Kh) (by simp[aa,am (show 15<((a.put (some 13) (pt R 0)).put (some 14) (.int .u32 (bD r).1)).tmps.size by simp only[ab];omega)]) (ks.cU Kh w1 S R (bD r).2 hR1.2.1 hRS) fun e2 w2 HP=>⟨_,HP.1,?_⟩
  refine aj (aj (wpList_nil ⟨w2,rfl,fun s Nd=>?_,?_,?_,?_,?_,HP.2.1,hR1.2.2.trans HP.2.2⟩))
  ·rw[ak (by omega),ak (by omega),ak (by omega),ak (by omega),ak (by omega),ak (by omega)]
  ·rw[ak (by omega),am (by simp only[ab];omega),aa,ak (by omega),ak (by omega),am (by simp only[ab];omega)]
  ·rw[am (by simp only[ab];omega),aa,ak (by omega),am (by simp only[ab];omega)]
  ·simp only[ab];exact hs
  ·simp only[ai];exact hI.defers
 ·obtain⟨w1',rfl,Gz,h5,h6,Gu,Jg,HQ,Gy⟩:=hh
  have Gq:=jI (bD r).2
  have Om:=hI.keeps.size
  have hk01:ac (·=R) w0 w1:=hI.keeps.trans Gy
  have Tl:p3<w.heap.size:=(Array.getElem?_eq_some_iff.1 JJ).1
  have Tm:p2<w.heap.size:=(Array.getElem?_eq_some_iff.1 hI.b2).1
  have IV:=Gy.size
  refine au (ag ?_)
  rw[aa,h5]
  refine ag ?_
  rw[aa,ak (by omega),Gz 0 (by omega),hI.g0]
  refine ag ?_
  rw[aa,ak (by omega),ak (by omega),h6]
  have Hn:IntKind.i64.wrap ((bD (bD r).2).1:Int)=((bD (bD r).2).1:Int):=by simp[IntKind.wrap,IntKind.bits,IntKind.signed];omega
  refine aT (k:=.u32) (k':=.i64) (m:=((bD (bD r).2).1:Int)) (by rw[aa,am (by simp only[ab];omega)]) kt.dU32 kt.dInt ?_
  rw[Hn]
  refine aR (vs:=#[pt R 0,.int .i64 ((bD (bD r).2).1:Int)]) (ks.eS J2) ?_ (ks.cS J2 w1 S R _ _ HQ hRS) fun e w2 HP=>?_
  ·simp only[List.map_cons,List.map_nil,aa]
   rw[am (by simp only[ab];omega),ak (show 18≠20 by omega),ak (show 18≠19 by omega),am (by simp only[ab];omega)]
  obtain⟨v,he,GJ,Gs,Jl⟩:=HP
  refine⟨v,he,?_⟩
  have GN:ac (·=R) w w2:=Gy.trans Gs
  have UB:w2.heap[p3]?=some (.cells #[mm] g.tTags (0,0)):=by rw[GN.block p3 Tl (by omega)];exact JJ
  have Lq:=Gs.size
  have JP:∀ X:Nat->Prop,(∀ k,X k->k<w0.heap.size+2)->¬ X S->cN w2 X mm t:=fun X hX hXS=>
   ((Hv (fun k=>X k \/ k=R) (fun k hk=>by rcases hk with hk|hk;exact hX k hk;omega) (fun hk=>by rcases hk with hk|hk;exact hXS hk;exact hRS hk)).keep (GN.mono fun _ _ h=>.inr h)).mono fun _ _ h=>.inl h
  have HM:=jI r
  refine aR (vs:=#[pt p3 0,.int .u32 (bD r).1,v]) PT ?_ (H9 w2 p3 0 mm t (bD r).1 v _ #[mm] g.tTags HM UB rfl (JP _ (fun k hk=>by omega) (by omega)) (Jl.sl (by omega))) fun e3 w3 hR3=>?_
  ·simp only[List.map_cons,List.map_nil,aa]
   rw[am (by simp only[ab];omega),ak (show 3≠21 by omega),ak (show 3≠20 by omega),ak (show 3≠19 by omega),ak (show 3≠18 by omega),ak (show 3≠17 by omega),Gz 3 (by omega),hI.g3,
    ak (show 17≠21 by omega),ak (show 17≠20 by omega),ak (show 17≠19 by omega),ak (show 17≠18 by omega),am (by omega)]
  obtain⟨Ra,q,w',rfl,Gx,M7,Ip,Pd,R2⟩:=hR3
  have hqg:w0.heap.size+2<=q:=by
   rcases IQ with hm|⟨q',hm,RX⟩
   ·rw[M7 hm];omega
   ·rw[Ip q' hm];exact RX
  have Ol:=Gx.size
  refine⟨_,Ra,wpList_nil (h _ w3 ?_ (fun a'' e0 e2 e3' e4 es ed=>⟨e0.trans ?_,e2.trans ?_,e3'.trans ?_,e4,es.trans ?_,ed.trans ?_,?_,?_,cp (bD r).1 _ t,_,.map (some q),K5,GJ.keep Gx (by omega) (by omega),?_,.inr ⟨q,rfl,hqg⟩,fun X hX hXS=>?_⟩) ?_)⟩
  ·rw[ak (by omega),ak (by omega),ak (by omega),ak (by omega),ak (by omega),ak (by omega),Gz 4 (by omega)];exact hI.g4
  ·rw[ak (by omega),ak (by omega),ak (by omega),ak (by omega),ak (by omega),ak (by omega),Gz 0 (by omega)];exact hI.g0
  ·rw[ak (by omega),ak (by omega),ak (by omega),ak (by omega),ak (by omega),ak (by omega),Gz 2 (by omega)];exact hI.g2
  ·rw[ak (by omega),ak (by omega),ak (by omega),ak (by omega),ak (by omega),ak (by omega),Gz 3 (by omega)];exact hI.g3
  ·simp only[ab];exact Gu
  ·simp only[ai];exact Jg
  ·refine⟨Gx.os.trans (GN.os.trans hI.keeps.os),Gx.tape.trans (GN.tape.trans hI.keeps.tape),Gx.output.trans (GN.output.trans hI.keeps.output),by omega,fun i hi hx=>?_⟩
   rw[Gx.block i (by omega) (by omega),GN.block i (by omega) hx,hI.keeps.block i hi hx]
  ·rw[Gx.block p2 (by omega) (by omega),GN.block p2 Tm (by omega)];exact hI.b2
  ·rw[Pd];rfl
  ·exact R2 X (fun h=>by have:=hX q h;omega) (fun k hk=>by have:=hX k hk;omega) (Jl.sl fun h=>by rcases h with h|h;exact hXS h;omega) (JP X hX hXS)
  ·simp only[ab];exact Gu
end
section
variable {P:Program} {g:G} {K:Kn}
theorem m5 {F p:Nat}{w:World}{v x:Value}(hV:bd P F true 1)(hb:w.heap[p]?=some (.cells (aI #[x] 0 [v]) F (0,0))):(loadVar F ⟨p,0,none⟩).run P w=.ok (.agg #[v]) w:=by
 have hl:=run_loadCells_list (P:=P) w ⟨p,0,none⟩ [v] (fun j u hj=>by
  rw[Addr.add_lit]
  cases j with
  | zero=>simp at hj;subst hj;simp[World.cell?,hb,aI]
  | succ j=>simp at hj)
 simp only[List.length_cons,List.length_nil,Nat.zero_add]at hl
 simp[loadVar,hV.agg w,hV.size w,hl]
theorem TI.put {S R p2 p3 ntmps c:Nat}{w0 w:World}{fin:List (Nat × Bs) × RS}{a:Act}(h:TI g S R p2 p3 ntmps w0 fin c a w){d:Nat}{v:Value}(hd:5<=d):TI g S R p2 p3 ntmps w0 fin c (a.put (some d) v) w:=
 ⟨by rw[ak (by omega)];exact h.g0,by rw[ak (by omega)];exact h.g2,by rw[ak (by omega)];exact h.g3,by rw[ak (by omega)];exact h.g4,by rw[ab];exact h.size,by rw[ai];exact h.defers,h.keeps,h.b2,h.ex⟩
theorem vX {T:Nat}(kt:KT P g K)(ks:KSub P g K T)(Kh:bL g.uv=true)(J2:bL g.span=true)(hT:T=g.tR)(PT:Ent P g.set)(H9:SetOk P g.set){S R p2 p3 ntmps:Nat}{w0 w:World}{fin:List (Nat × Bs) × RS}{c:Nat}{a:Act}{KK E:Act->World->Prop}
  (Gm:p2=w0.heap.size) (Gt:p3=w0.heap.size+1) (hS:S<w0.heap.size) (hR:R<w0.heap.size) (hRS:S≠R) (G8:24<=ntmps) (Ke:c<4294967296) (hI:TI g S R p2 p3 ntmps w0 fin c a w)
  (h:∀ a' w',TI g S R p2 p3 ntmps w0 fin 0 a' w'->KK a' w') :
  aQ P (.block 0 (.loop (.seq (.seq (rg [mk (some 9) (.move (tm 4)),mk (some 10) (.binOp .gtr K.tU32 (tm 9) (ki .u32 0) 0)]) (.cond (tm 10) .skip (.exit 0)))
  (.seq (.block 1 (.seq (rg [mk (some 13) (.move (tm 0)),cl (some 14) g.uv [tm 13],mk (some 15) (.move (tm 0)),cl (some 16) g.uv [tm 15],mk (some 5) (.assign (tm 14)),mk (some 6) (.assign (tm 16))])
   (rg [mk (some 17) (.move (tm 5)),mk (some 18) (.move (tm 0)),mk (some 19) (.move (tm 6)),mk (some 20) (.convert K.tU32 K.tInt (tm 19)),cl (some 21) g.span [tm 18,tm 20],cl (some 22) g.set [tm 3,tm 17,tm 21]])))
   (rg [mk (some 11) (.move (tm 4)),mk (some 12) (.binOp .sub K.tU32 (tm 11) (ki .u32 1) 0),mk (some 4) (.assign (tm 12))]))))) (Rt KK E) a w:=by
 refine .block (.loop (fun a1 w1=>∃ c:Nat,c<4294967296/\TI g S R p2 p3 ntmps w0 fin c a1 w1) (fun a1 _=>(match a1.get 4 with|.int _ q=>q|_=>0).toNat) ⟨c,Ke,hI⟩ ?_)
 rintro a1 w1 ⟨c,GZ,h1⟩
 have Gu:=h1.size
 have G3:∀ (b:Bool),b=decide ((0:Int)<(c:Int))->wpList P [mk (some 9) (.move (tm 4)),mk (some 10) (.binOp .gtr K.tU32 (tm 9) (ki .u32 0) 0)].toArray
   (Rt (fun a' w'=>a'.eval (tm 10)=.bool b/\TI g S R p2 p3 ntmps w0 fin c a' w'/\w'=w1) E) [mk (some 9) (.move (tm 4)),mk (some 10) (.binOp .gtr K.tU32 (tm 9) (ki .u32 0) 0)] a1 w1:=by
  intro b hb
  refine ag ?_
  rw[aa,h1.g4]
  refine bt (b:=b) (p:=c) (q:=0) (k:=.u32) (by rw[aa,am (by omega)]) rfl (.inr (.inr (.inr (.inl ⟨rfl,hb⟩)))) (wpList_nil ?_)
  exact⟨by rw[aa,am (by simp only[ab];omega)],(h1.put (by omega)).put (by omega),rfl⟩
 cases c with
 | succ c=>
  refine .seq (R:=Rt (fun a2 w2=>TI g S R p2 p3 ntmps w0 fin (c+1) a2 w2/\w2=w1) E) ?_ (fun a2 w2 hh=>?_) (fun e a w he hq=>by cases e<;>first|exact absurd rfl he|exact hq|exact hq.elim)
  ·refine .seq (.reg (G3 true (by simp))) (fun a2 w2 hh=>.condT hh.1 (.skip hh.2)) (fun e a w he hq=>by cases e<;>first|exact absurd rfl he|exact hq)
  ·obtain⟨h2,rfl⟩:=hh
   refine .seq (R:=Rt (fun a3 w3=>a3.get 4=.int .u32 ((c+1:Nat):Int)/\(∀ a'',a''.get 0=a3.get 0->a''.get 2=a3.get 2->a''.get 3=a3.get 3->a''.get 4=.int .u32 c->a''.tmps.size=a3.tmps.size->a''.defers=a3.defers->TI g S R p2 p3 ntmps w0 fin c a'' w3)/\a3.tmps.size=ntmps) E)
    (.block (.mono (vW kt ks Kh J2 hT PT H9 Gm Gt hS hR hRS G8 h2 (Q:=Rt (fun _ _=>False) E) (KK:=fun a3 w3=>a3.get 4=.int .u32 ((c+1:Nat):Int)/\(∀ a'',a''.get 0=a3.get 0->a''.get 2=a3.get 2->a''.get 3=a3.get 3->a''.get 4=.int .u32 c->a''.tmps.size=a3.tmps.size->a''.defers=a3.defers->TI g S R p2 p3 ntmps w0 fin c a'' w3)/\a3.tmps.size=ntmps) (fun a' w' x y z=>⟨x,y,z⟩))
     fun e a w hq=>by cases e<;>first|exact hq|exact hq.elim)) (fun a3 w3 hh=>?_) (fun e a w he hq=>by cases e<;>first|exact absurd rfl he|exact hq|exact hq.elim)
   obtain⟨GI,R2,Hh⟩:=hh
   refine .reg (ag ?_)
   rw[aa,GI]
   have Hn:IntKind.u32.wrap (((c+1:Nat):Int)-1)=(c:Int):=by simp[IntKind.wrap,IntKind.bits,IntKind.signed];omega
   refine cE (v:=.int .u32 (c:Int)) (k:=.u32) (m:=((c+1:Nat):Int)) (n:=1) (by rw[aa,am (by omega)]) rfl (by simp) (by simp only[binOp,Op.intArith,Hn];simp) ?_
   refine aj (wpList_nil ?_)
   rw[aa,am (by simp only[ab];omega)]
   have I7:(((a3.put (some 11) (.int .u32 ((c+1:Nat):Int))).put (some 12) (.int .u32 (c:Int))).put (some 4) (.int .u32 (c:Int))).get 4=.int .u32 (c:Int):=am (by simp only[ab];omega)
   refine⟨⟨c,by omega,R2 _ ?_ ?_ ?_ I7 ?_ ?_⟩,?_⟩
   ·rw[ak (by omega),ak (by omega),ak (by omega)]
   ·rw[ak (by omega),ak (by omega),ak (by omega)]
   ·rw[ak (by omega),ak (by omega),ak (by omega)]
   ·simp only[ab]
   ·simp only[ai]
   ·rw[I7,h1.g4]
    simp only
    omega
 | zero=>
  refine .seq (R:=fun e a w=>e≠.normal/\Exit.inBlock 0 (Rt KK E) e a w) ?_ (fun a2 w2 hh=>absurd rfl hh.1) (fun e a w he hq=>?_)
  ·refine .seq (R:=Rt (fun a' w'=>a'.eval (tm 10)=.bool false/\TI g S R p2 p3 ntmps w0 fin 0 a' w'/\w'=w1) E) (.reg (G3 false (by simp))) (fun a2 w2 hh=>.condF hh.1 (.exit ?_)) (fun e a w he hq=>by cases e<;>first|exact absurd rfl he|exact⟨by simp,hq⟩|exact hq.elim)
   simp only[Exit.inBlock,if_true]
   exact⟨by simp,h a2 w2 hh.2.1⟩
  ·rw[cA he];exact hq.2
theorem rdTags_calls {T:Nat}(kt:KT P g K)(ks:KSub P g K T)(Kh:bL g.uv=true)(J2:bL g.span=true)(hT:T=g.tR)(PT:Ent P g.set)(H9:SetOk P g.set)(hz:∀ w,(zeroValue g.tTags).run P w=.ok (.agg #[.map none]) w)(hV:bd P g.tTags true 1){f ntmps:Nat}(hfn:FnIsC P f ntmps 2 g.tTags (cRdTags g K))(G8:24<=ntmps)
  {w:World} {S R:Nat} {r:RS} (hR:cQ w g.tR S R r) (hRS:S≠R) (hS:S<w.heap.size):Calls P f #[pt R 0] w fun e w'=>
  ∃ m,e=.returned (.agg #[m])/\cQ w' g.tR S R (fW (bD r).1 [] (bD r).2).2/\ac (·=R) w w'/\∀ X:Nat->Prop,(∀ k,X k->k<w.heap.size)->¬ X S->cN w' X m (fW (bD r).1 [] (bD r).2).1:=by
 refine hfn.calls kt.mixed ?_
 have G0:=cH #[pt R 0] ntmps (by show 1<=ntmps;omega)
 have HS:({ tmps:=#[pt R 0]++Array.replicate (ntmps-(#[pt R 0]:Array Value).size) undef,defers:=[] }:Act).get 0=pt R 0:=by rw[bX _ _ _ (by simp)];rfl
 have IC:({ tmps:=#[pt R 0]++Array.replicate (ntmps-(#[pt R 0]:Array Value).size) undef,defers:=[] }:Act).defers=[]:=rfl
 have hsz':({ tmps:=#[pt R 0]++Array.replicate (ntmps-(#[pt R 0]:Array Value).size) undef,defers:=[] }:Act).tmps.size=ntmps:=G0
 generalize({ tmps:=#[pt R 0]++Array.replicate (ntmps-(#[pt R 0]:Array Value).size) undef,defers:=[] }:Act)=a at HS IC hsz' ⊢
 have UT:=hR.lt
 unfold cRdTags
 refine az (au (ep (hz w) (wpList_nil ?_)))
 refine az (au (ep (hz _) (wpList_nil ?_)))
 have JG:ac (fun _=>False) w ((w.alloc (.cells (Value.agg #[.map none]).cells g.tTags (0,0))).alloc (.cells (Value.agg #[.map none]).cells g.tTags (0,0))):=(ac.alloc _ _ _).trans (ac.alloc _ _ _)
 have Hj:((w.alloc (.cells (Value.agg #[.map none]).cells g.tTags (0,0))).alloc (.cells (Value.agg #[.map none]).cells g.tTags (0,0))).heap[w.heap.size]?=some (.cells #[.map none] g.tTags (0,0)):=by rw[bA (by simp)];exact heap_alloc_new _ _
 have JJ:((w.alloc (.cells (Value.agg #[.map none]).cells g.tTags (0,0))).alloc (.cells (Value.agg #[.map none]).cells g.tTags (0,0))).heap[w.heap.size+1]?=some (.cells #[.map none] g.tTags (0,0)):=by
  have:=heap_alloc_new (w.alloc (.cells (Value.agg #[.map none]).cells g.tTags (0,0))) (.cells (Value.agg #[.map none]).cells g.tTags (0,0))
  rw[show(w.alloc (.cells (Value.agg #[.map none]).cells g.tTags (0,0))).heap.size=w.heap.size+1 by simp]at this
  exact this
 have SO:((w.alloc (.cells (Value.agg #[.map none]).cells g.tTags (0,0))).alloc (.cells (Value.agg #[.map none]).cells g.tTags (0,0))).heap.size=w.heap.size+2:=by simp
 have hsw:(w.alloc (.cells (Value.agg #[.map none]).cells g.tTags (0,0))).heap.size=w.heap.size+1:=by simp
 rw[hsw]
 generalize(w.alloc (.cells (Value.agg #[.map none]).cells g.tTags (0,0))).alloc (.cells (Value.agg #[.map none]).cells g.tTags (0,0))=w2 at JG Hj JJ SO ⊢
 have e0:((a.put (some 2) (.pointer (some ⟨w.heap.size,0,none⟩))).put (some 3) (.pointer (some ⟨w.heap.size+1,0,none⟩))).get 0=pt R 0:=by rw[ak (by omega),ak (by omega)];exact HS
 have e2:((a.put (some 2) (.pointer (some ⟨w.heap.size,0,none⟩))).put (some 3) (.pointer (some ⟨w.heap.size+1,0,none⟩))).get 2=pt w.heap.size 0:=by rw[ak (by omega),am (by omega)];rfl
 have e3:((a.put (some 2) (.pointer (some ⟨w.heap.size,0,none⟩))).put (some 3) (.pointer (some ⟨w.heap.size+1,0,none⟩))).get 3=pt (w.heap.size+1) 0:=by rw[am (by simp only[ab];omega)];rfl
 have es:((a.put (some 2) (.pointer (some ⟨w.heap.size,0,none⟩))).put (some 3) (.pointer (some ⟨w.heap.size+1,0,none⟩))).tmps.size=ntmps:=by simp only[ab];exact hsz'
 have ed:((a.put (some 2) (.pointer (some ⟨w.heap.size,0,none⟩))).put (some 3) (.pointer (some ⟨w.heap.size+1,0,none⟩))).defers=[]:=by simp only[ai];exact IC
 generalize(a.put (some 2) (.pointer (some ⟨w.heap.size,0,none⟩))).put (some 3) (.pointer (some ⟨w.heap.size+1,0,none⟩))=a2 at e0 e2 e3 es ed ⊢
 subst hT
 have Gq:=jI r
 have HP:cQ w2 g.tR S R r:=hR.keep JG id id
 generalize K5:fW (bD r).1 [] (bD r).2=fin
 have hkA':ac (·=R) w w2:=JG.mono fun _ _ h=>h.elim
 refine az ?_
 rw[aV]
 refine .seq (R:=Rt (fun a' w'=>TI g S R w.heap.size (w.heap.size+1) ntmps w fin (bD r).1 a' w') fun _ _=>False) (.reg ?_) (fun a1 w1 hI=>?_) (fun e a w he hq=>by cases e<;>first|exact absurd rfl he|exact hq|exact hq.elim)
 ·refine ag ?_
  rw[aa,e0]
  refine aR (vs:=#[pt R 0]) (ks.eU Kh) (by simp[aa,am (show 7<a2.tmps.size by omega)]) (ks.cU Kh w2 S R r HP hRS) fun e w3 hR3=>⟨_,hR3.1,?_⟩
  refine aj (wpList_nil ?_)
  have Gx:=hR3.2.2
  refine⟨?_,?_,?_,?_,?_,?_,hkA'.trans Gx,?_,[],(bD r).2,.map none,K5,hR3.2.1,?_,.inl rfl,fun X _ _=>.inl ⟨rfl,rfl⟩⟩
  ·rw[ak (by omega),ak (by omega),ak (by omega)];exact e0
  ·rw[ak (by omega),ak (by omega),ak (by omega)];exact e2
  ·rw[ak (by omega),ak (by omega),ak (by omega)];exact e3
  ·rw[am (by simp only[ab];omega),aa,am (by simp only[ab];omega)]
  ·simp only[ab];exact es
  ·simp only[ai];exact ed
  ·rw[Gx.block _ (by omega) (by omega)];exact Hj
  ·rw[Gx.block _ (by omega) (by omega)];exact JJ
 ·refine vX kt ks Kh J2 rfl PT H9 rfl rfl hS UT hRS G8 Gq hI fun a3 w3 h3=>?_
  obtain⟨t,r',mm,NH,HA,Pd,_,Hv⟩:=h3.ex
  have Hh:=h3.size
  have Pq:=h3.keeps.size
  refine az (au ?_)
  have Kd:∀ j v,[mm][j]?=some v->w3.cell? ⟨w.heap.size+1,0+j,none⟩=some v:=by
   intro j v hj
   cases j with
   | zero=>simp at hj;subst hj;simp[World.cell?,Pd]
   | succ j=>simp at hj
  refine fo (b:=w.heap.size+1) (o:=0) (cs:=[mm]) (by rw[aa];exact h3.g3) (hV.agg w3) (hV.size w3) Kd ?_
  refine bw (g:=w.heap.size) (o:=0) (cur:=#[.map none]) (t:=g.tTags) (v:=.agg #[mm]) (vs:=[mm]) (by rw[aa,ak (by omega)];exact h3.g2) (by rw[aa,am (by omega)]) rfl (hV.size w3) h3.b2 (by simp) ?_ (wpList_nil ?_)
  ·intro u hu
   simp at hu
   subst hu
   rcases Hv (fun _=>False) (fun _ h=>h.elim) id with⟨rfl,_⟩|⟨q,rfl,_⟩<;>rfl
  ·refine az (.ret ?_)
   have hb2':(w3.setRow w.heap.size (aI #[.map none] 0 [mm])).heap[w.heap.size]?=some (.cells (aI #[.map none] 0 [mm]) g.tTags (0,0)):=setRow_heap _ _ _ _ _ _ h3.b2
   have GH:ac (·=w.heap.size) w3 (w3.setRow w.heap.size (aI #[.map none] 0 [mm])):=ac.setRow _ _ _ _ rfl
   refine⟨by simp only[ai];exact h3.defers,⟨w.heap.size,0,none⟩,.agg #[mm],by rw[ak (by omega)];exact h3.g2,?_,mm,rfl,?_,?_,?_⟩
   ·have hl:=m5 (P:=P) hV hb2'
    exact hl
   ·rw[<- NH]at *
    exact HA.keep GH (by omega) (by omega)
   ·refine⟨GH.os.trans h3.keeps.os,GH.tape.trans h3.keeps.tape,GH.output.trans h3.keeps.output,by have:=GH.size;omega,fun i hi hx=>?_⟩
    rw[GH.block i (by omega) (by omega),h3.keeps.block i hi hx]
   ·intro X hX hXS
    have:=(Hv (fun k=>X k \/ k=w.heap.size) (fun k hk=>by rcases hk with hk|hk;have:=hX k hk;omega;omega) (fun hk=>by rcases hk with hk|hk;exact hXS hk;omega)).keep (GH.mono fun _ _ h=>.inr h)
    rw[<- NH]
    exact this.mono fun _ _ h=>.inl h
end
end Go.Proofs.YtbgklecbmhaadaaGreatDoor.Kx