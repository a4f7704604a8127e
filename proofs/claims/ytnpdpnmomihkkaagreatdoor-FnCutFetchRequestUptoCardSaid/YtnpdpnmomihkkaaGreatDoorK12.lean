/- messages, part 12 -/
import Derived.Test.YtnpdpnmomihkkaaGreatDoorK2
import Derived.Test.YtnpdpnmomihkkaaGreatDoorK5
import Derived.Test.YtnpdpnmomihkkaaGreatDoorK11
import Derived.Shelf.GgSortFunc.Whole
import Derived.Shelf.GgSortFunc.Tiny
import Derived.Sort.LotA
import Derived.OpenShut
import Derived.ChangeSlices

namespace Go.Proofs.YtnpdpnmomihkkaaGreatDoor.Kx
open Go
def kY (l:Bs):RS:=⟨l,false,l.isEmpty⟩
def againOut (kept hf:Bool)(flex:Nat)(fs:Fds)(ver:Int)(l:Bs):Option Bs:=
 match ij hf flex fs (gj kept ver (kY l)).1 (gj kept ver (kY l)).2 with
 | .ok v r=>if r.bad then none else some (iJ kept hf flex fs (gj kept ver (kY l)).1 v)
 | _=>none
structure MsgC (P:Program)(gErr te:Nat)(kept hf:Bool)(flex:Nat)(fs:Fds)(toff:Option Nat)(T:Nat)(z:Array Value)(fN fS fR fA:Nat):Prop where
 zpos:0<z.size
 newE:Ent P fN
 newC:∀ w,Calls P fN #[] w λe w'=>e=.returned (pt w.heap.size 0)/\br (λ_=>False) w w'/\w'.heap[w.heap.size]?=some (.cells z T (0,0))
 setE:Ent P fS
 setC:∀ (w:World) (B:Nat) (cur:Array Value) (x:Int),w.heap[B]?=some (.cells cur T (0,0))->0<cur.size->Calls P fS #[pt B 0,.int .i16 x] w λe w'=>e=.returned (.tuple #[])/\br (·=B) w w'/\w'.heap[B]?=some (.cells (cur.setIfInBounds 0 (.int .i16 x)) T (0,0))
 rdE:Ent P fR
 rdC:∀ (w:World) (B S:Nat) (ver:Int) (srcv:Value) (r0:RS),w.heap[B]?=some (.cells (z.setIfInBounds 0 (.int .i16 ver)) T (0,0))->dj w S srcv r0->r0.bad=false->ErrAt gErr w->S<w.heap.size->B≠S->gErr≠B->ij hf flex fs (gj kept ver r0).1 (gj kept ver r0).2≠.stuck ->
  Calls P fR #[pt B 0,srcv] w λe w'=>∃ x,e=.returned x/\lM fs toff B S T z.size w (gj kept ver r0).1 (ij hf flex fs (gj kept ver r0).1 (gj kept ver r0).2) x w'
 apE:Ent P fA
 apC:∀ (w:World) (B:Nat) (ver:Int) (vs:List V) (t:List (Nat × Bs)),-32768<=ver/\ver<32768->B<w.heap.size->w.cell? ⟨B,0,none⟩=some (.int .i16 ver)->RpF w (λk=>w.heap.size<=k) fs B 0 vs->gM w (λk=>w.heap.size<=k) B 0 toff t->(iJ kept hf flex fs ver (.st vs t)).length<=fq ->
  Calls P fA #[pt B 0,bR] w λe w'=>∃ d',e=.returned d'/\bS w' w.heap.size te d' (iJ kept hf flex fs ver (.st vs t))/\br (λ_=>False) w w'
theorem bS.sl {w:World}{L te:Nat}{d:Value}{bs:Bs}(h:bS w L te d bs):en w (λ_=>False) d bs:=by
 rcases h with⟨rfl,rfl⟩|⟨g,c,cur,rfl,_,hg,hn,hc,hs,JD⟩
 ·exact .inl ⟨rfl,rfl⟩
 ·refine .inr ⟨g,0,c,rfl,id,(aj.1 hg).1,hn,hc,λi x hi=>?_⟩
  rw[aN]
  simp[World.cell?,hg,JD i x hi,cP]
theorem tD {kept:Bool}{ver:Int}{r:RS}(h:-32768<=ver/\ver<32768):-32768<=(gj kept ver r).1/\(gj kept ver r).1<32768:=by
 cases kept with
 | false=>exact h
 | true=>
  show -32768<=(rI 2 r).1/\(rI 2 r).1<32768
  have h1:(rU 2 r).1<65536:=by
   unfold rU
   split
   ·decide
   ·have:=rJ (r.src.take 2)
    have hl:(r.src.take 2).length=2:=by rw[aG];omega
    rw[hl]at this
    exact this
  show -32768<=lr 16 (rU 2 r).1/\lr 16 (rU 2 r).1<32768
  simp only[lr]
  split<;>omega
section
variable {P:Program} {gErr te:Nat} {kept hf:Bool} {flex:Nat} {fs:Fds} {toff:Option Nat} {T:Nat} {z:Array Value} {fN fS fR fA:Nat}
theorem vf (hm:P.follows .mixedOrders=true)(M:MsgC P gErr te kept hf flex fs toff T z fN fS fR fA){f nt tI16 tInt tSl tErr:Nat}(ot:OctT P tSl te)(hI:P.underlying tI16=some (.int .i16))(Ms:P.underlying tInt=some (.int .i64)){ms:Array (String × TypeId)}(Pz:P.underlying tErr=some (.interface ms))
  (hfn:FnIs P f nt [4,5] (cAgain tI16 tInt tSl tErr fN fS fR fA)) (Jg:19<=nt) {w:World} {x:Int} {srcv:Value} {l:Bs} (KP:en w (λ_=>False) srcv l) (MM:l.length<=fq) (herr:ErrAt gErr w)
  (MP:ij hf flex fs (gj kept (IntKind.i16.wrap x) (kY l)).1 (gj kept (IntKind.i16.wrap x) (kY l)).2≠.stuck) (hlim:∀ bs,againOut kept hf flex fs (IntKind.i16.wrap x) l=some bs->bs.length<=fq) :
  Calls P f #[.int .i64 x,srcv] w λe w'=>∃ y b,e=.returned (.tuple #[y,.bool b])/\br (λ_=>False) w w' /\
   (againOut kept hf flex fs (IntKind.i16.wrap x) l=none->b=false/\y=bR)/\(∀ bs,againOut kept hf flex fs (IntKind.i16.wrap x) l=some bs->b=true/\en w' (λ_=>False) y bs):=by
 refine ic hm hfn ab [.int .i64 x,srcv] (by simp;omega) λa harg hs hd=>?_
 have g0:=harg 0 _ rfl
 have g1:=harg 1 _ rfl
 have RZ:gErr<w.heap.size:=by obtain⟨_,_,h⟩:=herr;exact e8 h
 generalize Mx:IntKind.i16.wrap x=ver at MP hlim ⊢
 have Yx:-32768<=ver/\ver<32768:=by rw[<- Mx];simp[IntKind.wrap,IntKind.bits,IntKind.signed];omega
 unfold cAgain
 refine bJ (bF (b7 (b7 (wpList_nil ?_))))
 refine bJ (bF (cj (vs:=#[]) M.newE rfl (M.newC w) λe w1 hR1=>⟨_,hR1.1,b7 (wpList_nil ?_)⟩))
 obtain⟨_,Jd,J2⟩:=hR1
 have PP:=Jd.size
 have NV:w.heap.size<w1.heap.size:=(aj.1 J2).1
 rw[bp,bA (by simp only[bq];omega)]
 have q0:((((a.put (some 4) (Act.eval a (.const bR))).put (some 5) (Act.eval (a.put (some 4) (Act.eval a (.const bR))) (.const (.bool false)))).put (some 7) (pt w.heap.size 0)).put (some 6) (pt w.heap.size 0)).get 0=.int .i64 x:=by
  rw[b8 aa,b8 aa,b8 aa,b8 aa];exact g0
 have q1:((((a.put (some 4) (Act.eval a (.const bR))).put (some 5) (Act.eval (a.put (some 4) (Act.eval a (.const bR))) (.const (.bool false)))).put (some 7) (pt w.heap.size 0)).put (some 6) (pt w.heap.size 0)).get 1=srcv:=by
  rw[b8 aa,b8 aa,b8 aa,b8 aa];exact g1
 have q6:((((a.put (some 4) (Act.eval a (.const bR))).put (some 5) (Act.eval (a.put (some 4) (Act.eval a (.const bR))) (.const (.bool false)))).put (some 7) (pt w.heap.size 0)).put (some 6) (pt w.heap.size 0)).get 6=pt w.heap.size 0:=bA (by simp only[bq];omega)
 have qs:((((a.put (some 4) (Act.eval a (.const bR))).put (some 5) (Act.eval (a.put (some 4) (Act.eval a (.const bR))) (.const (.bool false)))).put (some 7) (pt w.heap.size 0)).put (some 6) (pt w.heap.size 0)).tmps.size=nt:=by simp only[bq];exact hs
 have qd:((((a.put (some 4) (Act.eval a (.const bR))).put (some 5) (Act.eval (a.put (some 4) (Act.eval a (.const bR))) (.const (.bool false)))).put (some 7) (pt w.heap.size 0)).put (some 6) (pt w.heap.size 0)).defers=[]:=by simp only[b6];exact hd
 generalize(((a.put (some 4) (Act.eval a (.const bR))).put (some 5) (Act.eval (a.put (some 4) (Act.eval a (.const bR))) (.const (.bool false)))).put (some 7) (pt w.heap.size 0)).put (some 6) (pt w.heap.size 0)=a at q0 q1 q6 qs qd ⊢
 generalize hBe:w.heap.size=B at J2 NV q6 PP RZ
 refine bJ (bF (bv (bv ?_)))
 rw[bp,q6,bp,b8 aa,q0]
 refine ci (k:=.i64) (k':=.i16) (m:=x) (by rw[bp,bA (by simp only[bq];omega)]) Ms hI ?_
 rw[Mx]
 refine cj (vs:=#[pt B 0,.int .i16 ver]) M.setE ?_ (M.setC w1 B z ver J2 M.zpos) λe w2 Kr=>⟨_,Kr.1,wpList_nil ?_⟩
 ·simp only[List.map_cons,List.map_nil,bp]
  rw[b8 aa,b8 aa,bA aa,bA (by simp only[bq];omega)]
 obtain⟨_,IV,JH⟩:=Kr
 have Ys:=IV.size
 have p1:((((a.put (some 8) (pt B 0)).put (some 9) (.int .i64 x)).put (some 10) (.int .i16 ver)).put (some 11) (.tuple #[])).get 1=srcv:=by
  rw[b8 aa,b8 aa,b8 aa,b8 aa];exact q1
 have p6:((((a.put (some 8) (pt B 0)).put (some 9) (.int .i64 x)).put (some 10) (.int .i16 ver)).put (some 11) (.tuple #[])).get 6=pt B 0:=by
  rw[b8 aa,b8 aa,b8 aa,b8 aa];exact q6
 have ps:((((a.put (some 8) (pt B 0)).put (some 9) (.int .i64 x)).put (some 10) (.int .i16 ver)).put (some 11) (.tuple #[])).tmps.size=nt:=by simp only[bq];exact qs
 have pd:((((a.put (some 8) (pt B 0)).put (some 9) (.int .i64 x)).put (some 10) (.int .i16 ver)).put (some 11) (.tuple #[])).defers=[]:=by simp only[b6];exact qd
 generalize(((a.put (some 8) (pt B 0)).put (some 9) (.int .i64 x)).put (some 10) (.int .i16 ver)).put (some 11) (.tuple #[])=a at p1 p6 ps pd ⊢
 have J0:br (λ_=>False) w w2:=by
  have:br (λk=>B<=k) w w2:=(Jd.mono λ_ _ h=>h.elim).trans (IV.mono λk _ hk=>by omega)
  exact this.mono λk hk hX=>by omega
 have Nk:en w2 (λ_=>False) srcv l:=KP.keep J0
 have Lz:ErrAt gErr w2:=herr.keep J0 id
 have Uw:∃ d' w3 S,(Builtin.append_ #[tSl,tSl] tSl #[bR,srcv]).run P w2=.ok d' w3/\dj w3 S d' (kY l)/\br (λ_=>False) w2 w3/\S<w3.heap.size/\S≠B:=by
  by_cases P9:l=[]
  ·subst P9
   have hS:Src P 1 tSl srcv 0 [] w2:=by
    rcases Nk with⟨rfl,_⟩|⟨b,o,c,rfl,_,_,_,_,ho⟩
    ·exact x8 ot w2 0
    ·exact lQ ot ho
   exact⟨bR,w2,gErr,oJ ot hS,.inl ⟨rfl,rfl,rfl⟩,br.refl _ _,by omega,by omega⟩
  ·have hS:Src P 1 tSl srcv l.length (l.map cP) w2:=by
    rcases Nk with⟨rfl,rfl⟩|⟨b,o,c,rfl,_,_,_,_,ho⟩
    ·exact absurd rfl P9
    ·exact lQ ot ho
   obtain⟨d',w3,hr,hg⟩:=i0 (L:=w2.heap.size) (ty:=tSl) ot (bS.nil w2 w2.heap.size te) hS (ae _) (by simpa using MM)
   rw[aF]at hg
   have IZ:br (λ_=>False) w2 w3:=hg.keeps.mono λk _ hk=>by simp[Value.ownBlock]at hk
   rcases hg.dst with⟨_,h⟩|⟨gg,c,cur,rfl,hL,PE,hn,hc,Jc,JD⟩
   ·exact absurd h P9
   ·have IU:gg<w3.heap.size:=(aj.1 PE).1
    refine⟨_,w3,gg,hr,.inr ⟨0,c,rfl,by cases l with|nil=>exact absurd rfl P9|cons _ _=>rfl,hn,hc,IU,λi y hi=>?_⟩,IZ,IU,by omega⟩
    rw[aN]
    simp[World.cell?,PE,JD i y hi,cP]
 obtain⟨d',w3,S,Jl,LQ,IZ,Sr,hSB⟩:=Uw
 have QZ:=IZ.size
 have Mp:w3.heap[B]?=some (.cells (z.setIfInBounds 0 (.int .i16 ver)) T (0,0)):=by rw[IZ.block B aa id];exact JH
 have Ob:ErrAt gErr w3:=Lz.keep IZ id
 have LV:=M.rdC w3 B S ver d' (kY l) Mp LQ rfl Ob Sr aa aa MP
 have Mw:=tD (kept:=kept) (r:=kY l) Yx
 unfold againOut at hlim ⊢
 generalize hvrd:gj kept ver (kY l)=vr at LV hlim Mw MP ⊢
 generalize KQ:ij hf flex fs vr.1 vr.2=out at LV hlim MP ⊢
 have Kd:br (λ_=>False) w w3:=J0.trans IZ
 have Pt:∀ (b:Bool) (Y:Act->World->Prop) (E:Act->World->Prop),(∀ a4 w4 y,a4.get 16=.bool b->a4.get 6=pt B 0->a4.tmps.size=nt->a4.defers=[]->lM fs toff B S T z.size w3 vr.1 out y w4->Y a4 w4)->(∀ y w4,lM fs toff B S T z.size w3 vr.1 out y w4->(y=.nilIface/\b=false) \/ ((∃ t q,y=.iface t q)/\b=true)) ->
   cf P (rg [mk (some 12) (.move (tm 6)),mk (some 13) (.move (tm 1)),bi (some 14) .append [.const bR,tm 13] [tSl,tSl] tSl,cl (some 15) fR [tm 12,tm 14],mk (some 16) (.binOp .neq tErr (tm 15) (.const .nilIface) 0)]) (Rt Y E) a w2:=by
  intro b Y E hY hb
  refine .reg (bv (bv ?_))
  rw[bp,p6,bp,b8 aa,p1]
  refine wpList_plain rfl λ_ hK=>?_
  unfold Oper.wp
  have hx:(execOp (Act.eval ((a.put (some 12) (pt B 0)).put (some 13) srcv)) (bi (some 14) .append [.const bR,tm 13] [tSl,tSl] tSl)).run P w2=.ok (.value d') w3:=by
   have e13:Act.eval ((a.put (some 12) (pt B 0)).put (some 13) srcv) (tm 13)=srcv:=bA (by simp only[bq];omega)
   have ec:Act.eval ((a.put (some 12) (pt B 0)).put (some 13) srcv) (.const bR)=bR:=rfl
   simp[execOp,bi,resolve,invoke,e13,ec,builtin,Jl]
  rw[hx]
  refine hK _ _ ?_
  refine cj (vs:=#[pt B 0,d']) M.rdE ?_ LV λe w4 hR4=>?_
  ·simp only[List.map_cons,List.map_nil,bp]
   show([Act.get (Act.put _ (some 14) d') 12,Act.get (Act.put _ (some 14) d') 14]:List Value).toArray=_
   rw[b8 aa,b8 aa,bA aa,bA (by simp only[bq];omega)]
  obtain⟨y,he,M5⟩:=hR4
  refine⟨y,he,?_⟩
  show wpList P _ _ _ (Act.put (Act.put _ (some 14) d') (some 15) y) w4
  refine Aa (b:=b) Pz (by rw[bp,bA (by simp only[bq];omega)]) (hb y w4 M5) (wpList_nil (hY _ w4 y ?_ ?_ ?_ ?_ M5))
  ·rw[bA (by simp only[bq];omega)]
  ·rw[b8 aa,b8 aa,b8 aa,b8 aa,b8 aa];exact p6
  ·simp only[bq];exact ps
  ·simp only[b6];exact pd
 have kB:∀ w4,br (·=B) w3 w4->br (λ_=>False) w w4:=λw4 hk=>by
  have:br (λk=>B<=k) w w4:=(Kd.mono λ_ _ h=>h.elim).trans (hk.mono λk _ hk=>by omega)
  exact this.mono λk hk hX=>by omega
 have bad:(∀ y w4,lM fs toff B S T z.size w3 vr.1 out y w4->∃ t q,y=.iface t q)->(match out with|.ok v r=>if r.bad then none else some (iJ kept hf flex fs vr.1 v)|_=>none)=(none:Option Bs) ->
   cf P (sq [.seq (rg [mk (some 12) (.move (tm 6)),mk (some 13) (.move (tm 1)),bi (some 14) .append [.const bR,tm 13] [tSl,tSl] tSl,cl (some 15) fR [tm 12,tm 14],mk (some 16) (.binOp .neq tErr (tm 15) (.const .nilIface) 0)])
    (.cond (tm 16) (.seq (rg [mk (some 4) (.assign (.const bR)),mk (some 5) (.assign (.const (.bool false)))]) .ret) .skip),rg [mk (some 17) (.move (tm 6)),cl (some 18) fA [tm 17,.const bR],mk (some 4) (.assign (tm 18)),mk (some 5) (.assign (.const (.bool true)))],.ret])
    (Rt (λa' w'=>a'.defers=[]/\∃ y b,Ending.returned (cE [4,5] a')=.returned (.tuple #[y,.bool b])/\br (λ_=>False) w w'/\((match out with|.ok v r=>if r.bad then none else some (iJ kept hf flex fs vr.1 v)|_=>none)=none->b=false/\y=bR)/\(∀ bs,(match out with|.ok v r=>if r.bad then none else some (iJ kept hf flex fs vr.1 v)|_=>none)=some bs->b=true/\en w' (λ_=>False) y bs))
     (λa' w'=>a'.defers=[]/\∃ y b,Ending.returned (cE [4,5] a')=.returned (.tuple #[y,.bool b])/\br (λ_=>False) w w'/\((match out with|.ok v r=>if r.bad then none else some (iJ kept hf flex fs vr.1 v)|_=>none)=none->b=false/\y=bR)/\(∀ bs,(match out with|.ok v r=>if r.bad then none else some (iJ kept hf flex fs vr.1 v)|_=>none)=some bs->b=true/\en w' (λ_=>False) y bs))) a w2:=by
  intro RH JR
  refine bJ ?_
  rw[cn]
  refine .seq (Pt true _ _ (λa4 w4 y OH h6 L3 N8 M5=>?_) (λy w4 hp=>.inr ⟨RH y w4 hp,rfl⟩)) (λa1 w1 hh=>hh) (λe a w he hq=>by cases e<;>first|exact absurd rfl he|exact hq|exact hq.elim)
  refine .condT OH (bJ (cs:=[.ret]) (bF (b7 (b7 (wpList_nil (.ret ⟨?_,bR,false,?_,kB w4 M5.1,λ_=>⟨rfl,rfl⟩,λbs MY=>?_⟩))))))
  ·simp only[b6];exact N8
  ·show Ending.returned (.tuple #[Act.get _ 4,Act.get _ 5])=_
   rw[b8 aa,bA aa,bA (by simp only[bq];omega)]
   rfl
  ·rw[JR]at MY;cases MY
 cases out with
 | stuck=>exact absurd rfl MP
 | err=>exact bad (λy w4 hp=>hp.2) rfl
 | ok v r=>
  by_cases hbadr:r.bad=true
  ·exact bad (λy w4 hp=>hp.2.2.1 hbadr) (by simp[hbadr])
  ·have SB:r.bad=false:=by simpa using hbadr
   simp only[SB,ag,ak]at hlim ⊢
   have hlim':=hlim _ rfl
   refine bJ ?_
   rw[cn]
   refine .seq (Pt false _ _ (λa4 w4 y OH h6 L3 N8 M5=>?_) (λy w4 hp=>.inl ⟨hp.2.1 SB,rfl⟩)) (λa1 w1 hh=>hh) (λe a w he hq=>by cases e<;>first|exact absurd rfl he|exact hq|exact hq.elim)
   refine .condF OH (.skip (bJ (bF (bv ?_))))
   rw[bp,h6]
   obtain⟨YS,_,_,vs,t,cur,rfl,Zb,hcsz,MW,JT,hft⟩:=M5
   have WK:B<w4.heap.size:=(aj.1 Zb).1
   have Yr:=YS.size
   have IS:w4.cell? ⟨B,0,none⟩=some (.int .i16 vr.1):=by simp[World.cell?,Zb,MW]
   have hrp:RpF w4 (λk=>w4.heap.size<=k) fs B 0 vs:=RpF.mono (λk hk hX=>by omega) fs B 0 vs (JT (λ_=>False) (λ_ h=>h.elim) id)
   have Kb:gM w4 (λk=>w4.heap.size<=k) B 0 toff t:=(hft (λ_=>False) (λ_ h=>h.elim) id).mono λk hk hX=>by omega
   refine cj (vs:=#[pt B 0,bR]) M.apE ?_ (M.apC w4 B vr.1 vs t Mw WK IS hrp Kb hlim') λe w5 hR5=>?_
   ·simp only[List.map_cons,List.map_nil,bp]
    rw[bA aa]
    rfl
   obtain⟨d5,he5,N7,JZ⟩:=hR5
   refine⟨d5,he5,b7 (b7 (wpList_nil (bJ (.ret ⟨?_,d5,true,?_,(kB w4 YS).trans JZ,(λh=>by cases h),λbs MY=>⟨rfl,?_⟩⟩))))⟩
   ·simp only[b6];exact N8
   ·show Ending.returned (.tuple #[Act.get _ 4,Act.get _ 5])=_
    rw[b8 aa,bA (by simp only[bq];omega),bA (by simp only[bq];omega),bp,bA (by simp only[bq];omega)]
    rfl
   ·obtain rfl:=au MY
    exact N7.sl
end
section
variable {P:Program} {gErr te T:Nat} {hf:Bool} {flex:Nat} {fs:Fds} {toff:Option Nat} {z:Array Value} {fN fS fR fA:Nat}
theorem msgC_of {g:G}{gw:GW}{av avw:PF->Bool}{fl flw nl:Bool}{D:Nat->Option (List (Nat × Value))}(En:Env P g av fl D)(K0:KW P gw avw flw nl te){cx cw:Cx}{fD fRf kt ktw n0 n0w ntN ntS ntR ntRf ntA v6 tI16:Nat}{nm:Nm}{ms:Nm}{zv:Value}{wr:List (Nat × Value)}
  (Jb:cx.hf=true->fl=true) (Xo:cw.hf=true->flw=true) (Vp:cx.hf=hf) (X0:cw.hf=hf) (hN:FnIs P fN ntN [0] (cNewPtr T fD)) (YI:3<=ntN) (hS:FnIs P fS ntS [] (cSetV T tI16)) (hnS:8<=ntS) (hR:FnIs P fR ntR [4] (cRdF fRf)) (hnR:8<=ntR)
  (Zi:FnIs P fRf ntRf [6] (gRead g cx.hf false cx fs fD T kt flex n0 nm)) (UU:n0+17<=ntRf) (hA:FnIs P fA ntA [4] (gWrite gw false cw fs T ktw flex v6 n0w ms)) (hzv:zeroOf P T=some zv) (hD:D fD=some wr) (hz:z=applyWr zv.cells 0 wr) (SH:0<z.size) (JO:(wr.all λp=>decide (p.1<zv.cells.size))=true)
  (hF:gC P T 0 tI16 0 false 1=true) (hg:g.gErr=gErr) (Mn:tW ⟨P,g,av,D⟩ false cx fs fD T kt toff n0 ntRf nm z (rN g false cx fs fD T kt flex n0 nm)=true)
  (Ux:vH ⟨P,gw,avw,nl⟩ false cw fs T ktw toff v6 n0w ntA ms (p7 gw false cw fs T ktw flex v6 n0w ms)=true):MsgC P gErr te false hf flex fs toff T z fN fS fR fA where
 zpos:=SH
 newE:=hN.ent
 newC w:=by
  obtain⟨hE,Qz⟩:=En.df _ _ hD
  rw[hz]
  exact sB En.kb.mixed hN YI hzv hE Qz (λp hp=>by simpa using aT.1 JO p hp) w
 setE:=hS.ent
 setC w B cur x hB h0:=vP En.kb.mixed hS hnS (fldB_ok hF) hB h0
 rdE:=hR.ent
 rdC w B S ver srcv r0 hB KP Ju herr XS MB PG MP:=by
  subst Vp hg
  exact yP En.kb.mixed hR hnR Zi.ent (Di En Jb Zi Mn UU hB KP Ju herr XS MB PG MP)
 apE:=hA.ent
 apC w B ver vs t Mx hB IS hr ht hlim:=by
  subst X0
  exact zP K0 Xo hA Ux Mx hB IS hr ht hlim
end
section
open Go Go.ChangeMaps
section
variable {P:Program}
theorem tz {tS te:Nat}(hS:P.underlying tS=some (.slice te))(hi:∃ i z,P.info? te=some i/\i.zero=some z/\i.size=1/\i.bytes=4){ops:Array Oper}{Q:Exit->Act->World->Prop}{r:List Oper}{a:Act}{w:World}{d:Option Nat}{y:Operand}{k:Nat}(hy:a.eval y=d8 k)
  (h:wpList P ops Q r (a.put d (.slice (some ⟨w.heap.size,0,none⟩) 1 1)) (w.alloc (.cells #[d8 k] te (0,0)))):wpList P ops Q (mk d (.buildSlice tS 1 #[(0,y)])::r) a w:=by
 obtain⟨i,z,hi,hz,Jc,_⟩:=hi
 refine bP (w':=w.alloc (.cells #[d8 k] te (0,0))) ?_ h
 have Lc:=n9 [d8 k] 0 ((Array.range 1).map λk=>z.cells[k%z.cells.size]!) (λv hv=>by
  simp only[aY]at hv
  subst hv
  rfl) ab
 rw[fL ab]at Lc
 simp[xO]at Lc
 simp[execOp,mk,Instr.buildSlice,run_underlying hS,sizeOf,typeInfo,zeroValue,hi,hz,Jc,hy,Lc,newRow,newObj,Sem.run]
theorem Ga {ops:Array Oper}{Q:Exit->Act->World->Prop}{r:List Oper}{a:Act}{w w':World}{d:Option Nat}{b:Builtin}{args:List Operand}{tys:List Nat}{ty:Nat}{v:Value}(h:(execOp a.eval (bi d b args tys ty)).run P w=.ok (.value v) w')(hk:wpList P ops Q r (a.put d v) w'):wpList P ops Q (bi d b args tys ty::r) a w:=by
 refine wpList_plain rfl λ_ hK=>?_
 unfold Oper.wp
 rw[h]
 exact hK _ _ hk
def qp (w:World)(V:Nat):Nat:=match w.heap[V]? with|some (.cells cs _ _)=>(match (cs[0]?:Option Value)with|some (.slice _ n _)=>n|_=>0)|_=>0
theorem A6 {T:TN}(tf:TF P T){w0 w:World}{q it V G clock:Nat}{es:List ch}{a:Act}{K E:Act->World->Prop}(V4:a.get 24=pt it 0)(h4:a.get 4=pt V 0)(hs:53<=a.tmps.size)(hg:oq T w0 q it V G clock es [] w)(hb:∀ e∈es,e.born<clock)(hn:(es.map ch.born).Nodup)
  (h:∀ a' w' L,(∀ i,i<4->a'.get i=a.get i)->a'.get 4=pt V 0->a'.tmps.size=a.tmps.size->a'.defers=a.defers->oq T w0 q it V G clock es L w'->(∀ e∈es,e.born∈L.map ch.born)->K a' w'):cf P (.block 0 (uW T)) (Rt K E) a w:=by
 have TY:∀ L w1,oq T w0 q it V G clock es L w1->qp w1 V=L.length:=λL w1 IY=>by simp[qp,IY.box]
 refine .block (.loop (λa1 w1=>∃ L,oq T w0 q it V G clock es L w1/\(∀ i,i<4->a1.get i=a.get i)/\a1.get 4=pt V 0/\a1.get 24=pt it 0/\a1.tmps.size=a.tmps.size/\a1.defers=a.defers) (λ_ w1=>es.length-qp w1 V) ⟨[],hg,λ_ _=>rfl,h4,V4,rfl,rfl⟩ ?_)
 rintro a1 w1 ⟨L,IY,Je,e4,e24,IX,Ma⟩
 have lt:∀ d,d<53->d<a1.tmps.size:=λd hd=>by omega
 have Jj:=IY.le
 rcases IY.next (P:=P) hb 0 with⟨Mq,hr⟩|⟨e,he,Lp,w2,KV,hr⟩
 ·-- all have come
  refine .seq (R:=Rt (λa2 w3=>a2=(a1.put (some 25) (.tuple #[.bool false])).put (some 26) (.bool false)/\w3=w1) λ_ _=>False) (.reg ?_) (λa2 w3 hh=>?_) (λe a w he hq=>by cases e<;>first|exact absurd rfl he|exact hq.elim)
  ·refine bP (v:=.tuple #[.bool false]) (w':=w1) (by simp[execOp,mk,bp,e24,hr]) ?_
   refine k8 (vs:=#[.bool false]) (v:=.bool false) (by rw[bp,bA (lt _ aa)]) rfl (wpList_nil ⟨rfl,rfl⟩)
  obtain⟨rfl,rfl⟩:=hh
  refine .seq (R:=Exit.then (λ_ _=>False) (Exit.inBlock 0 (Rt K E))) (.condF (by rw[bp,bA (by simp only[bq];exact lt _ aa)]) (.exit ?_)) (λ_ _ hh=>hh.elim) (λe a w he hq=>by rw[dY he]at hq ⊢;exact hq)
  show K _ _
  refine h _ _ L (λi hi=>?_) ?_ ?_ ?_ IY Mq
  ·rw[b8 aa,b8 aa];exact Je i hi
  ·rw[b8 aa,b8 aa];exact e4
  ·simp only[bq];exact IX
  ·simp only[b6];exact Ma
 ·-- one more
  have SY:((L++[e]).map ch.born).toArray=(L.map ch.born).toArray.push e.born:=by simp
  have PT:w2.heap=w1.heap:=by rcases KV with rfl|rfl<;>rfl
  have WS:br (λ_=>False) w1 w2:=by
   rcases KV with rfl|rfl
   ·exact br.refl _ _
   ·exact br.drew _ _
  obtain⟨n1,n2,n3,n4,n5,n6,n7⟩:=IY.new
  have IU:∀ k,w1.heap[k]?≠none->k<w1.heap.size:=λk hk=>by
   rcases bm k w1.heap.size with h|h
   ·exact h
   ·exact absurd (Array.getElem?_eq_none h) hk
  have TQ:it<w2.heap.size:=by rw[PT];exact IU it (by rw[IY.iter];simp)
  generalize hW:setBlock w2 it (.mapIter (some q) clock ((L++[e]).map ch.born).toArray clock)=W at hr
  have UA:W.heap[it]?=some (.mapIter (some q) clock ((L++[e]).map ch.born).toArray clock):=by rw[<- hW];exact q8 TQ
  have Sp:∀ k,k≠it->W.heap[k]?=w1.heap[k]?:=λk hk=>by rw[<- hW,oA hk,PT]
  have XL:W.heap.size=w1.heap.size:=by rw[<- hW,<- PT];show(w2.heap.setIfInBounds it _).size=_;simp
  have hKW:br (λk=>k=it) w1 W:=by
   rw[<- hW]
   exact(WS.mono λ_ _ h=>h.elim).trans (zf (X:=λk=>k=it) rfl)
  have hq:W.heap[q]?=some (.map (es.map ch.entry).toArray clock):=by rw[Sp q aa];exact IY.mp
  obtain⟨cur,Jq,Js,JD⟩:=IY.row
  have Zt:W.heap[G]?=some (.cells cur T.tU32 (0,0)):=by rw[Sp G n6];exact Jq
  have Zg:W.heap[V]?=some (.cells #[.slice (some ⟨G,0,none⟩) L.length es.length] T.tKs (0,0)):=by rw[Sp V n5];exact IY.box
  have QT:G<W.heap.size:=by rw[XL];exact IU G (by rw[Jq];simp)
  have XM:V<W.heap.size:=by rw[XL];exact IU V (by rw[IY.box];simp)
  have Tw:((L++[e]).map ch.born).Nodup:=by
   rw[List.map_append,List.nodup_append]
   refine⟨IY.nod,by simp,λx hx y hy=>?_⟩
   simp only[List.map_cons,List.map_nil,aY]at hy
   subst hy
   exact λPQ=>Lp (PQ ▸ hx)
  have JY:∀ x∈L++[e],x∈es:=λx hx=>by
   rcases List.mem_append.1 hx with hx|hx
   ·exact IY.sub x hx
   ·simp only[aY]at hx;subst hx;exact he
  have IT:L.length+1<=es.length:=by
   have Jn:oq T w0 q it V G clock es [] w:=hg
   have:=oq.le (T:=T) (w0:=w) (q:=q) (it:=it) (V:=V) (G:=G) (clock:=clock) (es:=es) (L:=L++[e])
    (w:=setBlock (setBlock w2 it (.mapIter (some q) clock ((L++[e]).map ch.born).toArray clock)) V (.cells #[.slice (some ⟨G,0,none⟩) (L++[e]).length es.length] T.tKs (0,0)))
   clear this Jn
   have key:∀ (l m:List Nat),l.Nodup->(∀ x∈l,x∈m)->l.length<=m.length:=by
    intro l
    induction l with
    | nil=>intro m _ _;simp
    | cons a l ih=>
     intro m hl hs
     obtain⟨h1,h2⟩:=List.nodup_cons.1 hl
     have hm:a∈m:=hs a ab
     have:=ih (m.erase a) h2 λx hx=>(List.mem_erase_of_ne (λe=>h1 (by rw[<- e];exact hx))).2 (hs x (by simp[hx]))
     rw[List.length_erase_of_mem hm]at this
     have:=List.length_pos_of_mem hm
     simp only[List.length_cons]
     omega
   have:=key ((L++[e]).map ch.born) (es.map ch.born) Tw λx hx=>by
    obtain⟨y,hy,rfl⟩:=aP.1 hx
    exact aP.2 ⟨y,JY y hy,rfl⟩
   simpa using this
  refine .seq (R:=Rt (λa2 w3=>a2=(a1.put (some 25) (.tuple #[.bool true,d8 e.key,e.val])).put (some 26) (.bool true)/\w3=W) λ_ _=>False) (.reg ?_) (λa2 w3 hh=>?_) (λe a w he hq=>by cases e<;>first|exact absurd rfl he|exact hq.elim)
  ·refine bP (v:=.tuple #[.bool true,d8 e.key,e.val]) (w':=W) (by simp[execOp,mk,bp,e24,hr]) ?_
   refine k8 (vs:=#[.bool true,d8 e.key,e.val]) (v:=.bool true) (by rw[bp,bA (lt _ aa)]) rfl (wpList_nil ⟨rfl,rfl⟩)
  obtain⟨rfl,rfl⟩:=hh
  refine .seq (R:=Rt (λa' w'=>a'=(a1.put (some 25) (.tuple #[.bool true,d8 e.key,e.val])).put (some 26) (.bool true)/\w'=w3) λ_ _=>False) (.condT (by rw[bp,bA (by simp only[bq];exact lt _ aa)]) (.skip ⟨rfl,rfl⟩)) (λa2 w4 hh=>?_) (λe a w he hq=>by cases e<;>first|exact absurd rfl he|exact hq.elim)
  obtain⟨rfl,rfl⟩:=hh
  refine .block ?_
  unfold uY
  have Xv:(Instr.entry (pt it 0)).run P w4=.ok (.tuple #[d8 e.key,e.val]) w4:=by
   have:=run_entry_at (P:=P) w4 it q clock (L.map ch.born).toArray (es.map ch.entry).toArray clock e.entry (by rw[UA,SY];rfl) hq (by simpa using⟨e,he,rfl⟩) (by
    have e1:((es.map ch.entry).toArray.toList.map (·.born))=es.map ch.born:=by simp[ch.entry,Function.comp_def]
    rw[e1];exact hn)
   simpa[pt,ch.entry,d8]using this
  refine .seq (R:=Rt (λa3 w5=>(∀ i,i<4->a3.get i=a.get i)/\a3.get 4=pt V 0/\a3.get 24=pt it 0/\a3.get 5=d8 e.key/\a3.tmps.size=a.tmps.size/\a3.defers=a.defers/\w5=w4) λ_ _=>False) (.reg ?_) (λa3 w5 hh=>?_) (λe a w he hq=>by cases e<;>first|exact absurd rfl he|exact hq.elim)
  ·refine bP (v:=.tuple #[d8 e.key,e.val]) (w':=w4) (by simp[execOp,mk,bp,gp,lt,bq,e24,Xv]) ?_
   refine k8 (vs:=#[d8 e.key,e.val]) (v:=d8 e.key) (by simp[bp,gp,lt,bq]) rfl (b7 (wpList_nil ⟨λi hi=>?_,?_,?_,?_,?_,?_,rfl⟩))
   ·iterate 5 rw[b8 aa]
    exact Je i hi
   ·iterate 5 rw[b8 aa]
    exact e4
   ·iterate 5 rw[b8 aa]
    exact e24
   ·simp[bp,gp,lt,bq]
   ·simp only[bq];exact IX
   ·simp only[b6];exact Ma
  obtain⟨f0,f4,f24,f5,fs,fd,rfl⟩:=hh
  have lt3:∀ d,d<53->d<a3.tmps.size:=λd hd=>by omega
  refine .reg ?_
  refine cL (p:=⟨V,0,none⟩) (v:=.slice (some ⟨G,0,none⟩) L.length es.length) (by rw[bp,f4];rfl) (tf.vK.agg _) (by simp[World.cell?,Zg]) (bv ?_)
  rw[bp,b8 aa,f5]
  refine tz tf.sl tf.info (k:=e.key) (by simp[bp,gp,lt3,bq]) ?_
  have UB:∀ k,k<w5.heap.size->(w5.alloc (.cells #[d8 e.key] T.tU32 (0,0))).heap[k]?=w5.heap[k]?:=λk hk=>cR hk
  have XH:=oI (P:=P) (w:=w5.alloc (.cells #[d8 e.key] T.tU32 (0,0))) (tS:=T.tKs) (te:=T.tU32) (G:=G) (n:=es.length) (cur:=cur) (v:=d8 e.key) (X:=w5.heap.size) (c:=1) (x:=L.length) (ty:=T.tKs) tf.sl
   (by obtain⟨i,_,h1,_,h2,_⟩:=tf.info;exact⟨i,h1,h2⟩) (by rw[UB G QT];exact Zt) Js aa (by
    have hn:=bO w5 (.cells #[d8 e.key] T.tU32 (0,0))
    simp only[World.cell?,hn]
    rfl) rfl
  refine Ga (v:=.slice (some ⟨G,0,none⟩) (L.length+1) es.length) (w':=(w5.alloc (.cells #[d8 e.key] T.tU32 (0,0))).setRow G (cur.setIfInBounds L.length (d8 e.key))) ?_ ?_
  ·have e29:Act.eval ((((a3.put (some 29) (.slice (some ⟨G,0,none⟩) L.length es.length)).put (some 30) (d8 e.key)).put (some 31) (.slice (some ⟨w5.heap.size,0,none⟩) 1 1))) (tm 29)=.slice (some ⟨G,0,none⟩) L.length es.length:=by simp[bp,gp,lt3,bq]
   have e31:Act.eval ((((a3.put (some 29) (.slice (some ⟨G,0,none⟩) L.length es.length)).put (some 30) (d8 e.key)).put (some 31) (.slice (some ⟨w5.heap.size,0,none⟩) 1 1))) (tm 31)=.slice (some ⟨w5.heap.size,0,none⟩) 1 1:=by simp[bp,gp,lt3,bq]
   simp[execOp,bi,resolve,invoke,e29,e31,builtin,XH]
  generalize hW5:(w5.alloc (.cells #[d8 e.key] T.tU32 (0,0))).setRow G (cur.setIfInBounds L.length (d8 e.key))=W5
  have UP:br (λk=>k=G) w5 W5:=by
   rw[<- hW5]
   exact(br.alloc _ _ _).trans (br.setRow _ _ _ _ rfl)
  have Zh:W5.heap[V]?=some (.cells #[.slice (some ⟨G,0,none⟩) L.length es.length] T.tKs (0,0)):=by rw[UP.block V XM n4];exact Zg
  have XY:W5.heap[G]?=some (.cells (cur.setIfInBounds L.length (d8 e.key)) T.tU32 (0,0)):=by
   rw[<- hW5]
   exact setRow_heap _ _ _ _ _ _ (by rw[UB G QT];exact Zt)
  refine cK (g:=V) (o:=0) (cur:=#[.slice (some ⟨G,0,none⟩) L.length es.length]) (t:=T.tKs) (v:=.slice (some ⟨G,0,none⟩) (L.length+1) es.length) (vs:=[.slice (some ⟨G,0,none⟩) (L.length+1) es.length]) (by simp[bp,gp,lt3,bq,f4,pt]) (by simp[bp,gp,lt3,bq]) rfl (tf.vK.size _) Zh ab (by simp[Value.oneCell']) (wpList_nil ?_)
  have e1:bV #[.slice (some ⟨G,0,none⟩) L.length es.length] 0 [.slice (some ⟨G,0,none⟩) (L.length+1) es.length]=#[.slice (some ⟨G,0,none⟩) (L.length+1) es.length]:=by simp[bV]
  rw[e1]
  have Vy:br (λk=>k=V) W5 (W5.setRow V #[.slice (some ⟨G,0,none⟩) (L.length+1) es.length]):=br.setRow _ _ _ _ rfl
  have OV:=UP.size
  have PD:oq T w0 q it V G clock es (L++[e]) (W5.setRow V #[.slice (some ⟨G,0,none⟩) (L.length+1) es.length]):=by
   refine⟨?_,?_,?_,?_,⟨cur.setIfInBounds L.length (d8 e.key),?_,by simp[Js],λi x hx=>?_⟩,JY,Tw,IY.new⟩
   ·have h3:br (λk=>w0.heap.size<=k) w0 w1:=IY.keeps.mono λ_ _ h=>h.elim
    have h4:br (λk=>w0.heap.size<=k) w1 (W5.setRow V #[.slice (some ⟨G,0,none⟩) (L.length+1) es.length]):=((hKW.mono λk _ hk=>by omega).trans (UP.mono λk _ hk=>by omega)).trans (Vy.mono λk _ hk=>by omega)
    exact(h3.trans h4).mono λk hk hX=>by omega
   ·rw[Vy.block q aa aa,UP.block q aa aa];exact hq
   ·have:it<w5.heap.size:=by rw[XL,<- PT];exact TQ
    rw[Vy.block it aa (λh=>n5 h.symm),UP.block it this (λh=>n6 h.symm)];exact UA
   ·rw[ad];exact setRow_heap _ _ _ _ _ _ Zh
   ·rw[Vy.block G aa (λh=>n4 h.symm)];exact XY
   ·by_cases hi:i<L.length
    ·rw[ay,al aa]
     rw[aR hi]at hx
     exact JD i x hx
    ·rw[aO aa]at hx
     have WZ:i-L.length=0:=by
      have:=(ah.1 hx).1
      simp at this
      omega
     rw[WZ]at hx
     obtain rfl:e=x:=by simpa using hx
     rw[show i=L.length by omega,ay,ax rfl,ax aa]
  show(∃ L,_)/\_
  refine⟨⟨L++[e],PD,λi hi=>?_,?_,?_,?_,?_⟩,?_⟩
  ·iterate 4 rw[b8 aa]
   exact f0 i hi
  ·iterate 4 rw[b8 aa]
   exact f4
  ·iterate 4 rw[b8 aa]
   exact f24
  ·simp only[bq];exact fs
  ·simp only[b6];exact fd
  ·show es.length-qp _ V<es.length-qp w1 V
   rw[TY _ _ PD,TY _ _ IY,ad]
   simp only[List.length_cons,List.length_nil]
   omega
end
end
section
open Go Go.ChangeMaps
section
variable {P:Program}
theorem CX {T:TN}(tf:TF P T){a:Act}{w:World}{b o n G L sz0 s1 fC:Nat}{cap:Array Value}{m:Value}{t:List (Nat × Bs)}{I:Nat->World->Prop}{K E:Act->World->Prop}(h0:a.get 0=pt b o)(h1:a.get 1=.func (.func fC) #[] cap)(h37:a.get 37=.slice (some ⟨G,0,none⟩) n n)
  (h38:a.get 38=.int .i64 (n:Int)) (h39:a.get 39=.int .i64 ((0:Nat):Int)) (hs:53<=a.tmps.size) (hn:n=t.length) (hn63:n<4611686018427387904) (hG:∃ cur,w.heap[G]?=some (.cells cur T.tU32 (0,0))/\∀ (i:Nat) (p:Nat × Bs),t[i]?=some p->cur[i]?=some (d8 p.1)) (hGs:sz0<=G/\G<s1)
  (MY:b<sz0) (_hLs:L<=sz0) (_hs1:sz0<=s1) (IS:w.cell? ⟨b,o,none⟩=some m) (ht:eA w (λk=>L<=k) m t) (hI:I 0 w) (Ya:Ent P fC)
  (hC:∀ (j:Nat) (w1:World) (k:Nat) (l:Bs) (v:Value),t[j]?=some (k,l)->I j w1->en w1 (λx=>L<=x) v l->Calls P fC (#[.int .u32 (k:Int),v]++cap) w1 λe w2=>e=.returned (.tuple #[])/\I (j+1) w2/\br (λx=>(L<=x/\x<sz0/\x≠b) \/ s1<=x) w1 w2)
  (h:∀ a' w',a'.tmps.size=a.tmps.size->a'.defers=a.defers->I n w'->K a' w'):cf P (.block 2 (rq T)) (Rt K E) a w:=by
 obtain⟨cur,hG,JD⟩:=hG
 refine .block (.loop (λa1 w1=>∃ j:Nat,j<=n/\a1.get 0=pt b o/\a1.get 1=.func (.func fC) #[] cap/\a1.get 37=.slice (some ⟨G,0,none⟩) n n/\a1.get 38=.int .i64 (n:Int)/\a1.get 39=.int .i64 (j:Int)/\a1.tmps.size=a.tmps.size/\a1.defers=a.defers /\
   w1.heap[G]?=some (.cells cur T.tU32 (0,0))/\w1.cell? ⟨b,o,none⟩=some m/\eA w1 (λk=>L<=k) m t/\I j w1) (λa1 _=>((n:Int)-(match a1.get 39 with|.int _ q=>q|_=>0)).toNat) ⟨0,by omega,h0,h1,h37,h38,h39,rfl,rfl,hG,IS,ht,hI⟩ ?_)
 rintro a1 w1 ⟨j,hj,e0,e1,e37,e38,e39,es,ed,eG,ec,et,eI⟩
 have lt:∀ d,d<53->d<a1.tmps.size:=λd hd=>by omega
 have Jh:∀ (bb:Bool) (Q:Act->World->Prop),bb=decide ((j:Int)<(n:Int))->cf P (rg [mk (some 40) (.binOp .lss T.tInt (tm 39) (tm 38) 0)]) (Rt (λa' w'=>a'=a1.put (some 40) (.bool bb)/\w'=w1) Q) a1 w1:=by
  intro bb Q KN
  exact .reg (cZ (b:=bb) (p:=j) (q:=n) (k:=.i64) e39 e38 (.inr (.inr (.inl ⟨rfl,KN⟩))) (wpList_nil ⟨rfl,rfl⟩))
 by_cases IU:j<n
 ·refine .seq (Jh true (λ_ _=>False) (by simp[IU])) (λa2 w2 hh=>?_) (λe a w he hq=>by cases e<;>first|exact absurd rfl he|exact hq.elim)
  obtain⟨rfl,rfl⟩:=hh
  refine .seq (R:=Rt (λa' w'=>a'=a1.put (some 40) (.bool true)/\w'=w2) λ_ _=>False) (.condT (by rw[bp,bA (lt _ aa)]) (.skip ⟨rfl,rfl⟩)) (λa3 w3 hh=>?_) (λe a w he hq=>by cases e<;>first|exact absurd rfl he|exact hq.elim)
  obtain⟨rfl,rfl⟩:=hh
  obtain⟨p,hp⟩:∃ p,t[j]?=some p:=⟨t[j]' aa,aq aa⟩
  obtain⟨k,l⟩:=p
  refine .seq (R:=Rt (λa' w'=>a'.get 0=pt b o/\a'.get 1=.func (.func fC) #[] cap/\a'.get 37=.slice (some ⟨G,0,none⟩) n n/\a'.get 38=.int .i64 (n:Int)/\a'.get 39=.int .i64 (j:Int)/\a'.tmps.size=a.tmps.size/\a'.defers=a.defers /\
    w'.heap[G]?=some (.cells cur T.tU32 (0,0))/\w'.cell? ⟨b,o,none⟩=some m/\eA w' (λk=>L<=k) m t/\I (j+1) w') λ_ _=>False) (.block ?_) (λa4 w4 hh=>?_) (λe a w he hq=>by cases e<;>first|exact absurd rfl he|exact hq.elim)
  ·unfold uX
   refine .seq (R:=Rt (λa' w'=>a'.get 0=pt b o/\a'.get 1=.func (.func fC) #[] cap/\a'.get 37=.slice (some ⟨G,0,none⟩) n n/\a'.get 38=.int .i64 (n:Int)/\a'.get 39=.int .i64 (j:Int)/\a'.get 7=d8 k/\a'.tmps.size=a.tmps.size/\a'.defers=a.defers/\w'=w3) λ_ _=>False) (.reg ?_) (λa5 w5 hh=>?_) (λe a w he hq=>by cases e<;>first|exact absurd rfl he|exact hq.elim)
   ·refine dJ (b:=G) (o:=0) (n:=n) (c:=n) (i:=j) (k:=.i64) (sz:=1) (by simp[bp,gp,lt,e37]) (by simp[bp,gp,lt,e39]) IU tf.sl (tf.vU.size _) ?_
    refine cL (p:=⟨G,0+j*1,none⟩) (v:=d8 k) (by simp[bp,gp,lt,bq]) (tf.vU.agg _) (by
     have:=JD j _ hp
     simp[World.cell?,eG,this]) (b7 (wpList_nil ⟨?_,?_,?_,?_,?_,?_,?_,?_,rfl⟩))
    ·simp[gp,lt,bq,e0]
    ·simp[gp,lt,bq,e1]
    ·simp[gp,lt,bq,e37]
    ·simp[gp,lt,bq,e38]
    ·simp[gp,lt,bq,e39]
    ·simp[bp,gp,lt,bq]
    ·simp only[bq];exact es
    ·simp only[b6];exact ed
   obtain⟨f0,f1,f37,f38,f39,f7,fs,fd,rfl⟩:=hh
   have lt5:∀ d,d<53->d<a5.tmps.size:=λd hd=>by omega
   have LM:∃ (q clock jj:Nat) (es:List ch) (e:ch),m=.map (some q)/\w5.heap[q]?=some (.map (es.map ch.entry).toArray clock)/\(es.map ch.key).Nodup/\es[jj]?=some e/\e.key=k/\en w5 (λx=>L<=x) e.val l:=by
    rcases et with⟨_,rfl⟩|⟨q,rfl,_,_,⟨es,clock,f,J2,IX,_,Jd,IP,_⟩,_⟩
    ·simp at hp
    ·have hm:(k,l)∈es.map λe=>(e.key,f e):=IP.mem_iff.2 (bc hp)
     obtain⟨e,he,Um⟩:=aP.1 hm
     simp only[Prod.mk.injEq]at Um
     obtain⟨jj,TM⟩:=List.getElem?_of_mem he
     exact⟨q,clock,jj,es,e,rfl,J2,Jd,TM,Um.1,by rw[<- Um.2];exact(IX e he).2.2.mono λ_ _ h=>.inl h⟩
   obtain⟨q,clock,jj,es',ev,rfl,J2,Jd,TM,rfl,Jo⟩:=LM
   obtain⟨kt,et',hM,Zr⟩:=tf.map
   refine .reg (bv (bv (bv ?_)))
   rw[bp,f1,bp,b8 aa,f7,bp,b8 aa,b8 aa,f0]
   refine bY (p:=⟨b,o,none⟩) (by simp[bp,gp,lt5,bq,pt]) ?_
   refine dt (B:=b) (O:=o) (by simp[bp,gp,lt5,bq]) tf.fld ?_
   refine cL (p:=⟨b,o+0,none⟩) (v:=.map (some q)) (by simp[bp,gp,lt5,bq]) (tf.fld.var.agg _) ec (bv ?_)
   refine bP (v:=ev.val) (w':=w5) ?_ ?_
   ·have KR:=wd (w:=w5) hM Zr J2 Jd TM rfl
    have e48:∀ (A:Act),A=A->A.eval (tm 48)=.map (some q)->A.eval (tm 49)=d8 ev.key->(execOp A.eval (mk (some 50) (.lookup T.tM (tm 48) (tm 49) false))).run P w5=.ok (.value ev.val) w5:=λA _ h1 h2=>by
     simp[execOp,mk,h1,h2,KR]
    refine e48 _ rfl ?_ ?_
    ·simp[bp,gp,lt5,bq]
    ·simp[bp,gp,lt5,bq,f7]
   refine yo (f:=fC) (cap:=cap) (vs:=#[.int .u32 (ev.key:Int),ev.val]) (args:=[tm 44,tm 50]) Ya (by simp[bp,gp,lt5,bq]) (by simp[bp,gp,lt5,bq,d8]) (hC j w5 ev.key l ev.val hp eI Jo) λe w6 hR=>?_
   obtain⟨he,L2,Lu⟩:=hR
   refine⟨_,he,wpList_nil ⟨?_,?_,?_,?_,?_,?_,?_,?_,?_,?_,L2⟩⟩
   ·simp[gp,lt5,bq,f0]
   ·simp[gp,lt5,bq,f1]
   ·simp[gp,lt5,bq,f37]
   ·simp[gp,lt5,bq,f38]
   ·simp[gp,lt5,bq,f39]
   ·simp only[bq];exact fs
   ·simp only[b6];exact fd
   ·have QT:G<w5.heap.size:=(aj.1 eG).1
    rw[Lu.block G QT aa];exact eG
   ·exact Lu.cell (λhh=>by rcases hh with hh|hh;exact hh.2.2 rfl;omega) ec
   ·exact et.keep (Lu.mono λk _ hk=>by omega)
  obtain⟨g0,g1,g37,g38,g39,gs,gd,gG,gc,gt,gI⟩:=hh
  have lt4:∀ d,d<53->d<a4.tmps.size:=λd hd=>by omega
  refine .reg ?_
  refine ee (k:=.i64) (m:=(j:Int)) (n:=1) (v:=.int .i64 ((j+1:Nat):Int)) (by rw[bp];exact g39) rfl ab (by
   have:IntKind.i64.wrap ((j:Int)+1)=((j+1:Nat):Int):=by simp[IntKind.wrap,IntKind.bits,IntKind.signed];omega
   simp[binOp,Op.intArith,this]) (bv (wpList_nil ?_))
  show(∃ j',_)/\_
  refine⟨⟨j+1,by omega,?_,?_,?_,?_,?_,?_,?_,gG,gc,gt,gI⟩,?_⟩
  ·simp[gp,lt4,bq,g0]
  ·simp[gp,lt4,bq,g1]
  ·simp[gp,lt4,bq,g37]
  ·simp[gp,lt4,bq,g38]
  ·simp[bp,gp,lt4,bq]
  ·simp only[bq];exact gs
  ·simp only[b6];exact gd
  ·show((n:Int)-(match Act.get _ 39 with|.int _ q=>q|_=>0)).toNat<((n:Int)-(match a1.get 39 with|.int _ q=>q|_=>0)).toNat
   rw[e39,bA (by simp only[bq];exact lt4 _ aa),bp,bA (lt4 _ aa)]
   simp only
   omega
 ·have Lv:j=n:=by omega
  refine .seq (Jh false (λ_ _=>False) (by simp;omega)) (λa2 w2 hh=>?_) (λe a w he hq=>by cases e<;>first|exact absurd rfl he|exact hq.elim)
  obtain⟨rfl,rfl⟩:=hh
  refine .seq (R:=Exit.then (λ_ _=>False) (Exit.inBlock 2 (Rt K E))) (.condF (by rw[bp,bA (lt _ aa)]) (.exit ?_)) (λ_ _ hh=>hh.elim) (λe a w he hq=>by rw[dY he]at hq ⊢;exact hq)
  show K _ _
  exact h _ _ (by simp only[bq];exact es) (by simp only[b6];exact ed) (Lv ▸ eI)
end
end
section
open Go Go.ChangeMaps
section
variable {P:Program}
theorem xd (hm:P.follows .mixedOrders=true){T:TN}(tf:TF P T)(N5:SortOk P T){f nt:Nat}(hfn:FnIs P f nt [] (cEach T))(Jg:53<=nt){w:World}{b o L fC:Nat}{m:Value}{t:List (Nat × Bs)}{cap:Array Value}{I:Nat->Nat->World->Prop}(hc:w.cell? ⟨b,o,none⟩=some m)(hb:b<w.heap.size)(hL:L<=w.heap.size)
  (ht:eA w (λk=>L<=k) m t) (hn:t.length<=35200000000000) (Ya:Ent P fC) (LH:∀ w1,br (λ_=>False) w w1->I w1.heap.size 0 w1)
  (hC:∀ (s1 j:Nat) (w1:World) (k:Nat) (l:Bs) (v:Value),w.heap.size<=s1->t[j]?=some (k,l)->I s1 j w1->en w1 (λx=>L<=x) v l->Calls P fC (#[.int .u32 (k:Int),v]++cap) w1 λe w2=>e=.returned (.tuple #[])/\I s1 (j+1) w2/\br (λx=>(L<=x/\x<w.heap.size/\x≠b) \/ s1<=x) w1 w2) :
  Calls P f #[pt b o,.func (.func fC) #[] cap] w λe w'=>e=.returned (.tuple #[])/\∃ s1,w.heap.size<=s1/\I s1 t.length w':=by
 refine ic hm hfn ab [pt b o,.func (.func fC) #[] cap] (by simp;omega) λa harg hs hd=>?_
 have g0:=harg 0 _ rfl
 have g1:=harg 1 _ rfl
 obtain⟨kt,et,hM,Zr⟩:=tf.map
 have Za:b<w.heap.size:=hb
 unfold cEach
 have Pt:∀ (bb:Bool) (Y:Act->World->Prop),bb=decide (t.length=0)->(∀ a2,a2.get 13=.bool bb->a2.get 0=pt b o->a2.get 1=.func (.func fC) #[] cap->a2.tmps.size=nt->a2.defers=[]->Y a2 w) ->
   cf P (rg (rk T 8++[bi (some 12) .len [tm 11] [T.tM] T.tInt,mk (some 13) (.binOp .eql T.tInt (tm 12) (ki .i64 0) 0)])) (Rt Y λ_ _=>False) a w:=by
  intro bb Y KN hY
  refine .reg (pq tf g0 hc aa aa λa1 Je Ld IX Ma=>?_)
  refine nP hM (by rw[bp];exact Ld) ht ?_
  refine cZ (b:=bb) (p:=(t.length:Int)) (q:=0) (k:=.i64) (by rw[bp,bA aa]) rfl (.inr (.inr (.inr (.inr (.inl ⟨rfl,by rw[KN];exact decide_eq_decide.2 aa⟩))))) (wpList_nil (hY _ ?_ ?_ ?_ ?_ ?_))
  ·rw[bA (by simp only[bq];omega)]
  ·rw[b8 aa,b8 aa,Je 0 aa];exact g0
  ·rw[b8 aa,b8 aa,Je 1 aa];exact g1
  ·simp only[bq];omega
  ·simp only[b6];exact Ma.trans hd
 by_cases h0:t.length=0
 ·refine .seq (R:=Rt (λ_ _=>False) (λa' w'=>a'.defers=[]/\(Ending.returned (cE [] a')=.returned (.tuple #[])/\∃ s1,w.heap.size<=s1/\I s1 t.length w'))) (.seq (Pt true _ (by simp[h0]) λa2 KO _ _ _ JW=>?_) (λa1 w1 hh=>hh) (λe a w he hq=>by cases e<;>first|exact absurd rfl he|exact hq.elim)) (λ_ _ hh=>hh.elim) (λe a w he hq=>by cases e<;>first|exact absurd rfl he|exact hq)
  exact .condT KO (.ret ⟨JW,rfl,w.heap.size,ae _,h0 ▸ LH w (br.refl _ _)⟩)
 refine .seq (R:=Rt (λa2 w2=>a2.get 0=pt b o/\a2.get 1=.func (.func fC) #[] cap/\a2.tmps.size=nt/\a2.defers=[]/\w2=w) λ_ _=>False) (.seq (Pt false _ (by simp[h0]) λa2 KO e0 e1 Jr JW=>?_) (λa1 w1 hh=>hh) (λe a w he hq=>by cases e<;>first|exact absurd rfl he|exact hq.elim)) (λa2 w2 hh=>?_) (λe a w he hq=>by cases e<;>first|exact absurd rfl he|exact hq.elim)
 ·exact .condF KO (.skip ⟨e0,e1,Jr,JW,rfl⟩)
 obtain⟨e0,e1,Jr,JW,rfl⟩:=hh
 obtain⟨q,rfl,YC,Wo,es,clock,ff,hq,LZ,Od,M8,QB,JU⟩:∃ r,m=.map (some r)/\¬ L<=r/\r<w2.heap.size/\jP w2 (λk=>L<=k) r t:=by
  rcases ht with⟨_,rfl⟩|h
  ·exact absurd rfl h0
  ·obtain⟨r,e1,e2,e3,e4,_⟩:=h
   exact⟨r,e1,e2,e3,e4⟩
 have IT:es.length=t.length:=by simpa using QB.length_eq
 have lt2:∀ d,d<53->d<a2.tmps.size:=λd hd=>by omega
 obtain⟨i,z,hi,hz,Jc,O1⟩:=tf.info
 refine .seq (R:=Rt (λa3 w3=>a3.get 0=pt b o/\a3.get 1=.func (.func fC) #[] cap/\a3.get 4=pt (w2.heap.size+1) 0/\a3.tmps.size=nt/\a3.defers=[]/\br (λ_=>False) w2 w3/\w3.heap.size=w2.heap.size+2 /\
   w3.heap[w2.heap.size+1]?=some (.cells #[.slice (some ⟨w2.heap.size,0,none⟩) 0 es.length] T.tKs (0,0))/\∃ cur,w3.heap[w2.heap.size]?=some (.cells cur T.tU32 (0,0))/\cur.size=es.length) λ_ _=>False) (.reg ?_) (λa3 w3 hh=>?_) (λe a w he hq=>by cases e<;>first|exact absurd rfl he|exact hq.elim)
 ·refine pq tf e0 hc aa aa λa3 Je UU JI Kp=>?_
  refine nP hM (by rw[bp];exact UU) ht ?_
  have Vj:=run_makeSlice (P:=P) (w:=w2) T.tKs T.tU32 i z tf.sl hi hz .i64 .i64 0 (t.length:Int) aa aa
  have WH:(Instr.makeSlice T.tKs (.int .i64 0) (.int .i64 (t.length:Int))).run P w2=.ok (.slice (some ⟨w2.heap.size,0,none⟩) 0 t.length) (w2.alloc (.cells (madeCells z.cells (t.length*i.size)) T.tU32)):=by
   have:=run_make (P:=P) w2 T.tKs T.tU32 i z tf.sl hi hz .i64 .i64 0 (t.length:Int) aa aa (by rw[O1];omega) aa
   simpa using this
  clear Vj
  refine bP (v:=.slice (some ⟨w2.heap.size,0,none⟩) 0 t.length) (w':=w2.alloc (.cells (madeCells z.cells (t.length*i.size)) T.tU32)) (by
   have e18:(a3.put (some 18) (.int .i64 (t.length:Int))).eval (tm 18)=.int .i64 (t.length:Int):=by rw[bp,bA aa]
   have e0':(a3.put (some 18) (.int .i64 (t.length:Int))).eval (ki .i64 0)=.int .i64 0:=rfl
   simp[execOp,mk,e18,e0',WH]) ?_
  refine fe (z:=.slice none 0 0) (tf.zK _) ?_
  have LK:(w2.alloc (.cells (madeCells z.cells (t.length*i.size)) T.tU32)).heap.size=w2.heap.size+1:=by simp
  generalize Nh:w2.alloc (.cells (madeCells z.cells (t.length*i.size)) T.tU32)=w3 at LK ⊢
  have OG:w3.heap[w2.heap.size]?=some (.cells (madeCells z.cells (t.length*i.size)) T.tU32 (0,0)):=by rw[<- Nh];exact bO _ _
  have IZ:br (λ_=>False) w2 w3:=by rw[<- Nh];exact br.alloc _ _ _
  have Sq:=bO w3 (.cells (Value.cells (.slice none 0 0)) T.tKs (0,0))
  rw[LK]at Sq ⊢
  refine cK (g:=w2.heap.size+1) (o:=0) (cur:=Value.cells (.slice none 0 0)) (t:=T.tKs) (v:=.slice (some ⟨w2.heap.size,0,none⟩) 0 t.length) (vs:=[.slice (some ⟨w2.heap.size,0,none⟩) 0 t.length]) (by rw[bp,bA (by simp only[bq];omega)]) (by rw[bp,b8 aa,bA (by simp only[bq];omega)]) rfl (tf.vK.size _) Sq (by simp[Value.cells]) (by simp[Value.oneCell']) (wpList_nil ⟨?_,?_,?_,?_,?_,?_,?_,?_,madeCells z.cells (t.length*i.size),?_,?_⟩)
  ·iterate 3 rw[b8 aa]
   rw[Je 0 aa];exact e0
  ·iterate 3 rw[b8 aa]
   rw[Je 1 aa];exact e1
  ·rw[bA (by simp only[bq];omega)];rfl
  ·simp only[bq];omega
  ·simp only[b6];exact Kp.trans JW
  ·have h4:br (λk=>w2.heap.size<=k) w2 ((w3.alloc (.cells (Value.cells (.slice none 0 0)) T.tKs (0,0))).setRow (w2.heap.size+1) (bV (Value.cells (.slice none 0 0)) 0 [.slice (some ⟨w2.heap.size,0,none⟩) 0 t.length])):=
    ((IZ.mono λ_ _ h=>h.elim).trans (br.alloc _ _ _)).trans (br.setRow _ _ _ _ aa)
   exact h4.mono λk hk hX=>by omega
  ·simp[LK]
  ·rw[setRow_heap _ _ _ _ _ _ Sq,IT]
   simp[bV,Value.cells]
  ·rw[setRow_other _ _ _ _ aa,cR aa];exact OG
  ·rw[size_madeCells,Jc,IT];omega
 obtain⟨k0,k1,k4,JI,Kp,IZ,QZ,SD,cur,OG,Js⟩:=hh
 refine .seq (R:=Rt (λa4 w4=>∃ Ls,a4.get 0=pt b o/\a4.get 1=.func (.func fC) #[] cap/\a4.get 4=pt (w2.heap.size+1) 0/\a4.tmps.size=nt/\a4.defers=[]/\oq T w2 q (w2.heap.size+2) (w2.heap.size+1) w2.heap.size clock es Ls w4/\(∀ e∈es,e.born∈Ls.map ch.born)) λ_ _=>False) (.seq (R:=Rt (λa4 w4=>a4.get 0=pt b o/\a4.get 1=.func (.func fC) #[] cap/\a4.get 4=pt (w2.heap.size+1) 0/\a4.get 24=pt (w2.heap.size+2) 0/\a4.tmps.size=nt/\a4.defers=[]/\oq T w2 q (w2.heap.size+2) (w2.heap.size+1) w2.heap.size clock es [] w4) λ_ _=>False) (.reg ?_) (λa4 w4 hh=>?_) (λe a w he hq=>by cases e<;>first|exact absurd rfl he|exact hq.elim)) (λa4 w4 hh=>?_) (λe a w he hq=>by cases e<;>first|exact absurd rfl he|exact hq.elim)
 ·refine pq tf k0 (IZ.cell id hc) aa aa λa4 Je h23 L3 N8=>?_
  have Ol:w3.heap[q]?=some (.map (es.map ch.entry).toArray clock):=by rw[IZ.block q Wo id];exact hq
  have hr:=run_range_map w3 T.tM kt et q (es.map ch.entry).toArray clock hM Ol
  refine bP (v:=pt w3.heap.size 0) (w':=w3.alloc (.mapIter (some q) clock #[] clock)) (by
   have e23:a4.eval (tm 23)=.map (some q):=h23
   simp[execOp,mk,e23,hr,pt]) (wpList_nil ⟨?_,?_,?_,?_,?_,?_,?_⟩)
  ·rw[b8 aa,Je 0 aa];exact k0
  ·rw[b8 aa,Je 1 aa];exact k1
  ·rw[b8 aa,Je 4 aa];exact k4
  ·rw[bA aa,QZ]
  ·simp only[bq];omega
  ·simp only[b6];exact N8.trans Kp
  ·refine⟨IZ.trans (br.alloc _ _ _),?_,?_,?_,⟨cur,?_,Js,λi e h=>by simp at h⟩,λ_ h=>by simp at h,by simp,by omega⟩
   ·rw[cR aa];exact Ol
   ·have:=bO w3 (.mapIter (some q) clock #[] clock)
    rw[QZ]at this
    simpa using this
   ·rw[cR aa];exact SD
   ·rw[cR aa];exact OG
 ·obtain⟨f0,f1,f4,f24,fs,fd,hg⟩:=hh
  refine A6 tf f24 f4 aa hg (λe he=>(LZ e he).2.1) Od λa' w' Ls Je h4 Mh hd' Jn Mq=>⟨Ls,?_,?_,h4,by omega,hd'.trans fd,Jn,Mq⟩
  ·rw[Je 0 aa];exact f0
  ·rw[Je 1 aa];exact f1
 obtain⟨Ls,f0,f1,f4,fs,fd,hg,Mq⟩:=hh
 have Tj:=u9 Ls es hg.nod Od hg.sub Mq
 have Zp:Ls.length=es.length:=by simpa using Tj.length_eq
 have lt4:∀ d,d<53->d<a4.tmps.size:=λd hd=>by omega
 obtain⟨cur4,hG4,X2,XG⟩:=hg.row
 have MZ:=hg.box
 rw[Zp]at MZ
 refine .seq (R:=Rt (λa5 w5=>a5.get 0=pt b o/\a5.get 1=.func (.func fC) #[] cap/\a5.get 4=pt (w2.heap.size+1) 0/\a5.tmps.size=nt/\a5.defers=[]/\br (λk=>k=w2.heap.size) w4 w5 /\
   ∃ (cur':Array Value) (ks':List Nat),w5.heap[w2.heap.size]?=some (.cells cur' T.tU32 (0,0))/\ks'.Perm (Ls.map ch.key)/\ks'.Pairwise (·<=·)/\∀ (i:Nat) (x:Nat),ks'[i]?=some x->cur'[i]?=some (d8 x)) λ_ _=>False) (.reg ?_) (λa5 w5 hh=>?_) (λe a w he hq=>by cases e<;>first|exact absurd rfl he|exact hq.elim)
 ·refine cL (p:=⟨w2.heap.size+1,0,none⟩) (v:=.slice (some ⟨w2.heap.size,0,none⟩) es.length es.length) (by rw[bp];exact f4) (tf.vK.agg _) (by simp[World.cell?,MZ]) ?_
  refine bP (v:=.iface T.tKs (.slice (some ⟨w2.heap.size,0,none⟩) es.length es.length)) (w':=w4) (by
   have e33:(a4.put (some 33) (.slice (some ⟨w2.heap.size,0,none⟩) es.length es.length)).eval (tm 33)=.slice (some ⟨w2.heap.size,0,none⟩) es.length es.length:=by rw[bp,bA (lt4 _ aa)]
   simp[execOp,mk,e33,Instr.makeInterface,run_underlying tf.sl]) ?_
  refine bP (v:=.func (.func T.fLess) #[] #[pt (w2.heap.size+1) 0]) (w':=w4) (by
   have e4':∀ A:Act,A.eval (tm 4)=pt (w2.heap.size+1) 0->(execOp A.eval (mk (some 35) (.makeFunc (.func T.fLess) #[] #[tm 4]))).run P w4=.ok (.value (.func (.func T.fLess) #[] #[pt (w2.heap.size+1) 0])) w4:=λA h=>by
    simp[execOp,mk,Instr.makeFunc,h]
   exact e4' _ (by simp[bp,gp,lt4,bq,f4])) ?_
  refine cj (vs:=#[.iface T.tKs (.slice (some ⟨w2.heap.size,0,none⟩) es.length es.length),.func (.func T.fLess) #[] #[pt (w2.heap.size+1) 0]]) N5.1 (by simp[bp,gp,lt4,bq])
   (N5.2 w4 (w2.heap.size+1) w2.heap.size es.length (Ls.map ch.key) cur4 (by simpa using Zp) aa (λx hx=>by
    obtain⟨e,he,rfl⟩:=aP.1 hx
    exact(LZ e (hg.sub e he)).1) MZ hG4 X2 aa λi x hx=>by
     rw[aD,aK]at hx
     obtain⟨e,he,rfl⟩:=hx
     exact XG i e he) λe w5 hR=>⟨_,hR.1,wpList_nil ⟨?_,?_,?_,?_,?_,hR.2.1,hR.2.2⟩⟩
  ·simp[gp,lt4,bq,f0]
  ·simp[gp,lt4,bq,f1]
  ·simp[gp,lt4,bq,f4]
  ·simp only[bq];exact fs
  ·simp only[b6];exact fd
 obtain⟨p0,p1,p4,ps,pd,JZ,cur5,ks,XY,Kt,Wb,XF⟩:=hh
 have Ka:ks=t.map (·.1):=by
  refine ue ?_ Wb (yO JU)
  have h1:(es.map ch.key).Perm (t.map (·.1)):=by
   have:=QB.map (·.1)
   simpa[Function.comp_def]using this
  exact Kt.trans (Tj.trans h1)
 have lt5:∀ d,d<53->d<a5.tmps.size:=λd hd=>by omega
 have RE:br (λ_=>False) w2 w5:=by
  have:br (λk=>w2.heap.size<=k) w2 w5:=(hg.keeps.mono λ_ _ h=>h.elim).trans (JZ.mono λk _ hk=>by omega)
  exact this.mono λk hk hX=>by omega
 have XN:w2.heap.size+1<w4.heap.size:=(aj.1 MZ).1
 have Wd:=JZ.size
 refine .seq (R:=Rt (λa6 w6=>a6=((a5.put (some 37) (.slice (some ⟨w2.heap.size,0,none⟩) es.length es.length)).put (some 38) (.int .i64 (es.length:Int))).put (some 39) (.int .i64 ((0:Nat):Int))/\w6=w5) λ_ _=>False) (.reg ?_) (λa6 w6 hh=>?_) (λe a w he hq=>by cases e<;>first|exact absurd rfl he|exact hq.elim)
 ·refine cL (p:=⟨w2.heap.size+1,0,none⟩) (v:=.slice (some ⟨w2.heap.size,0,none⟩) es.length es.length) (by rw[bp];exact p4) (tf.vK.agg _) (by
   have:w5.heap[w2.heap.size+1]?=some (.cells #[.slice (some ⟨w2.heap.size,0,none⟩) es.length es.length] T.tKs (0,0)):=by rw[JZ.block _ XN aa];exact MZ
   simp[World.cell?,this]) ?_
  exact gi (base:=some ⟨w2.heap.size,0,none⟩) (n:=es.length) (c:=es.length) (by rw[bp,bA (lt5 _ aa)]) tf.sl (bv (wpList_nil ⟨rfl,rfl⟩))
 obtain⟨rfl,rfl⟩:=hh
 refine CX (b:=b) (o:=o) (n:=es.length) (G:=w2.heap.size) (L:=L) (sz0:=w2.heap.size) (s1:=w6.heap.size) (fC:=fC) (cap:=cap) (m:=.map (some q)) (t:=t) (I:=I w6.heap.size) tf ?_ ?_ ?_ ?_ ?_ ?_ IT aa ⟨cur5,XY,λi p hp=>?_⟩ aa hb hL aa (RE.cell id hc) (ht.keep (RE.mono λ_ _ h=>h.elim)) (LH w6 RE) Ya (λj w1 k l v h1 h2 h3=>hC w6.heap.size j w1 k l v aa h1 h2 h3) λa' w' h1 h2 h3=>⟨?_,rfl,w6.heap.size,by omega,IT ▸ h3⟩
 ·simp[gp,lt5,bq,p0]
 ·simp[gp,lt5,bq,p1]
 ·simp[gp,lt5,bq]
 ·simp[gp,lt5,bq]
 ·simp[gp,lt5,bq]
 ·simp only[bq];omega
 ·refine XF i p.1 ?_
  rw[Ka,aD,hp]
  rfl
 ·rw[h2]
  simp only[b6]
  exact pd
end
end
section
open Go Go.ChangeMaps
section
variable {P:Program}
structure Bx (b tSl te L D:Nat)(d0:Value)(w0:World)(s1:Nat)(bs:Bs)(w:World)(d':Value):Prop where
 box:w.heap[D]?=some (.cells #[d'] tSl (0,0))
 gr:Gr L te d0 w0 d' bs w
 own:∀ k,d'.ownBlock=some k->k<D \/ s1<=k
 s1:D<s1/\s1<=w.heap.size
 D0:w0.heap.size<=D/\L<=D
 nb:b<w0.heap.size/\d0.ownBlock≠some b
theorem Bx.dst {b tSl te L D s1:Nat}{d0 d':Value}{w0 w:World}{bs:Bs}(h:Bx b tSl te L D d0 w0 s1 bs w d'):bS w L te d' bs:=h.gr.dst
theorem Bx.step {b tSl te L D s1:Nat}{d0 d' d'':Value}{w0 w w1:World}{bs bs':Bs}(h:Bx b tSl te L D d0 w0 s1 bs w d')(hg:Gr L te d' w d'' bs' w1) :
  w1.heap[D]?=some (.cells #[d'] tSl (0,0))/\Bx b tSl te L D d0 w0 s1 bs' (w1.setRow D #[d'']) d''/\br (λx=>(L<=x/\x<D+1/\x≠b) \/ s1<=x) w (w1.setRow D #[d'']):=by
 have hDl:D<w.heap.size:=by have:=h.s1;omega
 have Ki:d'.ownBlock≠some D:=λhh=>by have:=h.own D hh;have:=h.s1;omega
 have Jc:=hg.keeps.size
 have J2:w1.heap[D]?=some (.cells #[d'] tSl (0,0)):=by rw[hg.keeps.block D hDl Ki];exact h.box
 have M0:∀ k,d''.ownBlock=some k->k<D \/ s1<=k:=λk hk=>by
  rcases hg.own k hk with h1|h1
  ·exact h.own k h1
  ·have:=h.s1;exact .inr aa
 have W3:d''.ownBlock≠some D:=λhh=>by have:=M0 D hh;have:=h.s1;omega
 have Ka:br (λk=>k=D) w1 (w1.setRow D #[d'']):=br.setRow _ _ _ _ rfl
 refine⟨J2,⟨setRow_heap _ _ _ _ _ _ J2,(h.gr.trans hg).post Ka λk hk=>?_,M0,⟨h.s1.1,by have:=Ka.size;have:=h.s1;omega⟩,h.D0,h.nb⟩,?_⟩
 ·subst hk;exact⟨h.D0.1,W3⟩
 ·refine(hg.keeps.mono λk _ hk=>?_).trans (Ka.mono λk _ hk=>?_)
  ·have h1:=h.dst.own hk
   rcases h.own k hk with h2|h2
   ·refine .inl ⟨h1.1,by omega,λhkb=>?_⟩
    subst hkb
    rcases h.gr.own k hk with h3|h3
    ·exact h.nb.2 h3
    ·have:=h.nb.1;omega
   ·exact .inr h2
  ·subst hk;exact .inl ⟨h.D0.2,by omega,by have:=h.nb;have:=h.D0;omega⟩
theorem Bx.lim {b tSl te L D s1:Nat}{d0 d':Value}{w0 w:World}{bs:Bs}(h:Bx b tSl te L D d0 w0 s1 bs w d'):L<=w.heap.size:=by have:=h.s1;have:=h.D0;omega
theorem vI (hm:P.follows .mixedOrders=true){T:TN}{b te L D s1:Nat}(ot:OctT P T.tSl te)(hV:cv P T.tSl false 1)(Ms:P.underlying T.tInt=some (.int .i64))(XP:P.underlying T.tU32=some (.int .u32))(QR:Ent P T.fUv)(Vw:∀ (x:Nat) (w:World),x<4294967296->ApC P te T.fUv (.int .u32 x) (uvar x) w)
  {f nt:Nat} (hfn:FnIs P f nt [] (cTOne T)) (Jg:16<=nt) {w0 w:World} {d0 d' v:Value} {bs l:Bs} {k:Nat} (hb:Bx b T.tSl te L D d0 w0 s1 bs w d') (hk:k<4294967296) (hv:en w (λx=>L<=x) v l) (hlim:bs.length+(eZ (k,l)).length<=fq) :
  Calls P f #[.int .u32 (k:Int),v,pt D 0] w λe w'=>e=.returned (.tuple #[])/\(∃ d'',Bx b T.tSl te L D d0 w0 s1 (bs++eZ (k,l)) w' d'')/\br (λx=>(L<=x/\x<D+1/\x≠b) \/ s1<=x) w w':=by
 refine ic hm hfn ab [.int .u32 (k:Int),v,pt D 0] (by simp;omega) λa harg hs hd=>?_
 have g0:=harg 0 _ rfl
 have g1:=harg 1 _ rfl
 have g2:=harg 2 _ rfl
 have Zd:∀ {wa wb:World},br (λx=>(L<=x/\x<D+1/\x≠b) \/ s1<=x) wa wb->br (λx=>L<=x) wa wb:=λhh=>hh.mono λx _ hx=>by have:=hb.D0;have:=hb.s1;omega
 simp only[eZ,ad]at hlim
 have e1:∀ (x y:Value),bV #[x] 0 [y]=#[y]:=λx y=>by simp[bV]
 have cell:∀ {ww:World} {dd:Value},ww.heap[D]?=some (.cells #[dd] T.tSl (0,0))->ww.cell? ⟨D,0,none⟩=some dd:=λhh=>by simp[World.cell?,hh]
 have one:∀ {dd:Value} {bb:Bs} {ww:World},bS ww L te dd bb->dd.oneCell'=true/\dd.cells=#[dd]:=λhh=>by
  rcases hh with⟨rfl,_⟩|⟨_,_,_,rfl,_⟩<;>exact⟨rfl,rfl⟩
 unfold cTOne
 refine .seq (R:=Rt (λa1 w1=>a1.get 0=.int .u32 (k:Int)/\a1.get 1=v/\a1.get 2=pt D 0/\a1.tmps.size=nt/\a1.defers=[]/\(∃ d1,Bx b T.tSl te L D d0 w0 s1 (bs++uvar k) w1 d1)/\br (λx=>(L<=x/\x<D+1/\x≠b) \/ s1<=x) w w1) λ_ _=>False) (.reg ?_) (λa1 w1 hh=>?_) (λe a w he hq=>by cases e<;>first|exact absurd rfl he|exact hq.elim)
 ·refine cL (p:=⟨D,0,none⟩) (v:=d') (by rw[bp];exact g2) (hV.agg _) (cell hb.box) (bv ?_)
  rw[bp,b8 aa,g0]
  refine cj (vs:=#[d',.int .u32 (k:Int)]) QR ?_ (Vw k w hk L d' bs hb.dst hb.lim aa) λe w1 hR=>?_
  ·simp only[List.map_cons,List.map_nil,bp]
   rw[b8 aa,bA aa,bA (by simp only[bq];omega)]
  obtain⟨d1,he,hg⟩:=hR
  obtain⟨J2,MX,K5⟩:=hb.step hg
  refine⟨d1,he,cK (g:=D) (o:=0) (cur:=#[d']) (t:=T.tSl) (v:=d1) (vs:=[d1]) ?_ ?_ (by rw[(one hg.dst).2]) (hV.size _) J2 ab (by simpa using(one hg.dst).1) (wpList_nil ⟨?_,?_,?_,?_,?_,⟨d1,by rw[e1];exact MX⟩,by rw[e1];exact K5⟩)⟩
  ·rw[bp,b8 aa,b8 aa,b8 aa];exact g2
  ·rw[bp,bA (by simp only[bq];omega)]
  ·rw[b8 aa,b8 aa,b8 aa];exact g0
  ·rw[b8 aa,b8 aa,b8 aa];exact g1
  ·rw[b8 aa,b8 aa,b8 aa];exact g2
  ·simp only[bq];exact hs
  ·simp only[b6];exact hd
 obtain⟨f0,f1,f2,fs,fd,⟨d1,J2⟩,Jd⟩:=hh
 have Lf:=hv.keep (Zd Jd)
 obtain⟨vb,vc,VE,_⟩:=Lf.form
 refine .seq (R:=Rt (λa2 w2=>a2.get 1=v/\a2.get 2=pt D 0/\a2.tmps.size=nt/\a2.defers=[]/\(∃ d2,Bx b T.tSl te L D d0 w0 s1 (bs++uvar k++uvar (f9 l.length)) w2 d2)/\br (λx=>(L<=x/\x<D+1/\x≠b) \/ s1<=x) w w2) λ_ _=>False) (.reg ?_) (λa2 w2 hh=>?_) (λe a w he hq=>by cases e<;>first|exact absurd rfl he|exact hq.elim)
 ·refine cL (p:=⟨D,0,none⟩) (v:=d1) (by rw[bp];exact f2) (hV.agg _) (cell J2.box) (bv ?_)
  rw[bp,b8 aa,f1]
  refine gi (base:=vb) (n:=l.length) (c:=vc) (by rw[bp,bA (by simp only[bq];omega)];exact VE) ot.und ?_
  refine ci (k:=.i64) (k':=.u32) (m:=(l.length:Int)) (by rw[bp,bA (by simp only[bq];omega)]) Ms XP ?_
  have ew:IntKind.u32.wrap (l.length:Int)=((f9 l.length:Nat):Int):=by simp[IntKind.wrap,IntKind.bits,IntKind.signed,f9]
  rw[ew]
  have LJ:f9 l.length<4294967296:=by simp only[f9];omega
  refine cj (vs:=#[d1,.int .u32 ((f9 l.length:Nat):Int)]) QR ?_ (Vw (f9 l.length) w1 LJ L d1 _ J2.dst J2.lim (by rw[ad];omega)) λe w2 hR=>?_
  ·simp only[List.map_cons,List.map_nil,bp]
   rw[b8 aa,b8 aa,b8 aa,bA aa,bA (by simp only[bq];omega)]
  obtain⟨d2,he,hg⟩:=hR
  obtain⟨JH,MX,K5⟩:=J2.step hg
  refine⟨d2,he,cK (g:=D) (o:=0) (cur:=#[d1]) (t:=T.tSl) (v:=d2) (vs:=[d2]) ?_ ?_ (by rw[(one hg.dst).2]) (hV.size _) JH ab (by simpa using(one hg.dst).1) (wpList_nil ⟨?_,?_,?_,?_,⟨d2,by rw[e1];exact MX⟩,by rw[e1];exact Jd.trans K5⟩)⟩
  ·rw[bp];iterate 5 rw[b8 aa]
   exact f2
  ·rw[bp,bA (by simp only[bq];omega)]
  ·iterate 5 rw[b8 aa]
   exact f1
  ·iterate 5 rw[b8 aa]
   exact f2
  ·simp only[bq];exact fs
  ·simp only[b6];exact fd
 obtain⟨p1,p2,ps,pd,⟨d2,JH⟩,IV⟩:=hh
 have Mf:=hv.keep (Zd IV)
 have KP:Src P 1 T.tSl v l.length (l.map cP) w2:=by
  rcases Mf with⟨rfl,rfl⟩|⟨vb,o,c,rfl,_,_,_,_,ho⟩
  ·exact x8 ot w2 0
  ·exact lQ ot ho
 refine .reg ?_
 refine cL (p:=⟨D,0,none⟩) (v:=d2) (by rw[bp];exact p2) (hV.agg _) (cell JH.box) (bv ?_)
 rw[bp,b8 aa,p1]
 refine iu ot (L:=L) (d:=d2) (x:=v) (l:=l) (by rw[bp,b8 aa,bA aa]) (by rw[bp,bA (by simp only[bq];omega)]) JH.dst KP JH.lim (by simp only[ad];omega) λd3 w3 hg=>?_
 obtain⟨Mp,MX,K5⟩:=JH.step hg
 refine cK (g:=D) (o:=0) (cur:=#[d2]) (t:=T.tSl) (v:=d3) (vs:=[d3]) ?_ ?_ (by rw[(one hg.dst).2]) (hV.size _) Mp ab (by simpa using(one hg.dst).1) (wpList_nil ⟨?_,rfl,⟨d3,?_⟩,by rw[e1];exact IV.trans K5⟩)
 ·rw[bp];iterate 3 rw[b8 aa]
  exact p2
 ·rw[bp,bA (by simp only[bq];omega)]
 ·simp only[b6];exact pd
 ·rw[e1]
  simpa[eZ,ao]using MX
end
end
section
open Go Go.ChangeMaps
section
variable {P:Program}
theorem yv (t:List (Nat × Bs)):2*t.length<=(cM t).length:=by
 induction t with
 | nil=>simp[cM]
 | cons p t ih=>
  rw[j0,ad,tC,List.length_cons]
  have h1:=fg p.1
  have h2:=fg (f9 p.2.length)
  omega
theorem pu {t:List (Nat × Bs)}{j:Nat}{p:Nat × Bs}(h:t[j]?=some p):cM (t.take (j+1))=cM (t.take j)++eZ p:=by
 rw[List.take_add_one,h]
 simp[cM]
theorem qy (t:List (Nat × Bs))(j:Nat):(cM (t.take j)).length<=(cM t).length:=by
 have:cM t=cM (t.take j)++cM (t.drop j):=by
  simp only[cM,<- List.flatten_append,<- List.map_append,List.take_append_drop]
 rw[this,ad]
 omega
theorem CO {w:World}{X:Nat->Prop}{m:Value}{t:List (Nat × Bs)}(h:eA w X m t):∀ p∈t,p.1<4294967296:=λp hp=>by
 rcases h with⟨_,rfl⟩|⟨r,_,_,_,⟨es,c,f,_,LZ,_,_,Ti,_⟩,_⟩
 ·simp at hp
 ·obtain⟨e,he,rfl⟩:=aP.1 (Ti.mem_iff.2 hp)
  exact(LZ e he).1
theorem teach_calls (hm:P.follows .mixedOrders=true){T:TN}{te:Nat}(tf:TF P T)(N5:SortOk P T)(ot:OctT P T.tSl te)(hV:cv P T.tSl false 1)(QR:Ent P T.fUv)(Vw:∀ (x:Nat) (w:World),x<4294967296->ApC P te T.fUv (.int .u32 x) (uvar x) w)
  {f nt ntE nt1:Nat} (Vo:FnIs P T.fEach ntE [] (cEach T)) (Wz:53<=ntE) (N6:FnIs P T.fOne nt1 [] (cTOne T)) (R5:16<=nt1) (hfn:FnIs P f nt [4] (cTEach T)) (Jg:9<=nt)
  {w:World} {b o L:Nat} {m d:Value} {t:List (Nat × Bs)} {bs:Bs} (hc:w.cell? ⟨b,o,none⟩=some m) (hb:b<w.heap.size/\d.ownBlock≠some b) (ht:eA w (λk=>L<=k) m t) (hd:bS w L te d bs) (hL:L<=w.heap.size) (hlim:bs.length+(cM t).length<=fq) :
  Calls P f #[pt b o,d] w λe w'=>∃ d',e=.returned d'/\Gr L te d w d' (bs++cM t) w':=by
 refine ic hm hfn ab [pt b o,d] (by simp;omega) λa harg hs J3=>?_
 have g0:=harg 0 _ rfl
 have g1:=harg 1 _ rfl
 have lt:∀ i,i<9->i<a.tmps.size:=λi hi=>by omega
 have h2:=yv t
 have hl46:fq=70400000000000:=rfl
 have Kv:d.cells=#[d]:=by rcases hd with⟨rfl,_⟩|⟨_,_,_,rfl,_⟩<;>rfl
 have M0:∀ k,d.ownBlock=some k->k<w.heap.size:=λk hk=>(hd.own hk).2
 have M8:=CO ht
 unfold cTEach
 refine bJ (bF ?_)
 refine bP (v:=pt w.heap.size 0) (w':=w.alloc (.cells #[d] T.tSl (0,0))) (by
  have e1:a.eval (tm 1)=d:=g1
  simp[execOp,mk,e1,Instr.box,newVar,newRow,newObj,Sem.run,Kv,pt]) (b7 (wpList_nil ?_))
 rw[wY]
 have LK:(w.alloc (.cells #[d] T.tSl (0,0))).heap.size=w.heap.size+1:=by simp
 have O2:=bO w (.cells #[d] T.tSl (0,0))
 have Jd:br (λ_=>False) w (w.alloc (.cells #[d] T.tSl (0,0))):=br.alloc _ _ _
 generalize w.alloc (.cells #[d] T.tSl (0,0))=w1 at LK O2 Jd ⊢
 refine bJ (bF (bv ?_))
 rw[bp,b8 aa,b8 aa,g0]
 refine bP (v:=.func (.func T.fOne) #[] #[pt w.heap.size 0]) (w':=w1) (by
  have key:∀ A:Act,A.eval (tm 3)=pt w.heap.size 0->(execOp A.eval (mk (some 6) (.makeFunc (.func T.fOne) #[] #[tm 3]))).run P w1=.ok (.value (.func (.func T.fOne) #[] #[pt w.heap.size 0])) w1:=λA h=>by
   simp[execOp,mk,Instr.makeFunc,h]
  exact key _ (by simp[bp,gp,lt,bq])) ?_
 have Un:=xd hm tf N5 Vo Wz (w:=w1) (b:=b) (o:=o) (L:=L) (fC:=T.fOne) (m:=m) (t:=t) (cap:=#[pt w.heap.size 0]) (I:=λs1 j w'=>∃ d',Bx b T.tSl te L w.heap.size d w s1 (bs++cM (t.take j)) w' d')
  (Jd.cell id hc) (by have:=hb.1;omega) aa (ht.keep (Jd.mono λ_ _ h=>h.elim)) aa N6.ent (λw2 IV=>?_) (λs1 j w2 k l v IX hj hI hv=>?_)
 ·refine cj (vs:=#[pt b o,.func (.func T.fOne) #[] #[pt w.heap.size 0]]) Vo.ent (by simp[bp,gp,lt,bq]) Un λe w2 hR=>?_
  obtain⟨he,s1,IX,d',MX⟩:=hR
  refine⟨_,he,wpList_nil (bJ (bF ?_))⟩
  refine cL (p:=⟨w.heap.size,0,none⟩) (v:=d') (by simp[bp,gp,lt,bq,pt]) (hV.agg _) (by simp[World.cell?,MX.box]) (b7 (wpList_nil (bJ (.ret ⟨?_,d',?_,?_⟩))))
  ·simp only[b6];exact J3
  ·rw[fc]
   simp[bp,gp,lt,bq]
  ·have:=MX.gr
   rwa [List.take_of_length_le (ae _)]at this
 ·have PA:br (λ_=>False) w w2:=Jd.trans IV
  have Jr:=IV.size
  refine⟨d,⟨by rw[IV.block _ aa id];exact O2,?_,λk hk=>.inl (M0 k hk),⟨by omega,ae _⟩,⟨ae _,hL⟩,hb⟩⟩
  have e0:bs++cM (t.take 0)=bs:=by simp[cM]
  rw[e0]
  exact⟨hd.keep PA λ_ _ h=>h,PA.mono λ_ _ h=>h.elim,λk hk=>.inl hk⟩
 ·obtain⟨d',MX⟩:=hI
  have Jj:=qy t (j+1)
  rw[pu hj,ad]at Jj
  have:=vI hm ot hV tf.dInt tf.dU32 QR Vw N6 R5 MX (M8 _ (bc hj)) hv (by
   rw[ad]
   show bs.length+(cM (t.take j)).length+(eZ (k,l)).length<=fq
   omega)
  refine this.mono λe w3 h=>⟨h.1,?_,?_⟩
  ·obtain⟨d'',h3⟩:=h.2.1
   refine⟨d'',?_⟩
   rw[pu hj,<- ao]
   exact h3
  ·rw[LK];exact h.2.2
end
end
section
open Go Go.ChangeMaps Go.Shelf Go.Lib Go.Sort
section
variable {P:Program}
def sF (T:TN):List Oper:=[mk (some 6) (.load T.tKs (tm 2)),mk (some 7) (.move (tm 0)),mk (some 8) (.indexAddr T.tKs (tm 6) (tm 7)),mk (some 9) (.load T.tU32 (tm 8)),mk (some 10) (.load T.tKs (tm 2)),mk (some 11) (.move (tm 1)),mk (some 12) (.indexAddr T.tKs (tm 10) (tm 11)),mk (some 13) (.load T.tU32 (tm 12)),mk (some 14) (.binOp .lss T.tU32 (tm 9) (tm 13) 0)]
def cTLess (T:TN):Code:=sq [rg [mk (some 5) (.assign (.const (.bool false)))],.region 1 (sF T++[mk (some 5) (.assign (tm 14))]).toArray true,.ret]
theorem wN (hm:P.follows .mixedOrders=true){T:TN}(tf:TF P T){f nt:Nat}(hfn:FnIs P f nt [5] (cTLess T))(Jg:15<=nt){w:World}{V G n i j x y:Nat}(hV:w.cell? ⟨V,0,none⟩=some (.slice (some ⟨G,0,none⟩) n n))(hi:i<n)(hj:j<n)(hx:w.cell? ⟨G,i,none⟩=some (d8 x))(hy:w.cell? ⟨G,j,none⟩=some (d8 y)) :
  Calls P f #[.int .i64 (i:Int),.int .i64 (j:Int),pt V 0] w λe w'=>e=.returned (.bool (decide (x<y)))/\w'=w.drew:=by
 refine ic hm hfn ab [.int .i64 (i:Int),.int .i64 (j:Int),pt V 0] (by simp;omega) λa harg hs hd=>?_
 have g0:=harg 0 _ rfl
 have g1:=harg 1 _ rfl
 have g2:=harg 2 _ rfl
 unfold cTLess
 refine bJ (bF (b7 (wpList_nil ?_)))
 have Kh:fo (sF T++[mk (some 5) (.assign (tm 14))])=[false,false,false,false,false,false,false,false,false,true]:=by kernel_rfl
 refine bJ (.drw (λw'=>w'.heap=w.heap) ?_)
 rw[Kh]
 have hc:∀ {p:Addr} {v:Value},w.cell? p=some v->∀ w':World,w'.heap=w.heap->w'.cell? p=some v:=λh w' hw=>by simpa[World.cell?,hw]using h
 have lt:∀ d,d<15->d<(a.put (some 5) (Act.eval a (.const (.bool false)))).tmps.size:=λd hd=>by simp only[bq];omega
 have e0:(a.put (some 5) (Act.eval a (.const (.bool false)))).get 0=.int .i64 (i:Int):=by rw[b8 aa];exact g0
 have e1:(a.put (some 5) (Act.eval a (.const (.bool false)))).get 1=.int .i64 (j:Int):=by rw[b8 aa];exact g1
 have e2:(a.put (some 5) (Act.eval a (.const (.bool false)))).get 2=pt V 0:=by rw[b8 aa];exact g2
 have ed:(a.put (some 5) (Act.eval a (.const (.bool false)))).defers=[]:=by rw[b6];exact hd
 generalize a.put (some 5) (Act.eval a (.const (.bool false)))=a at lt e0 e1 e2 ed ⊢
 show iR P _ (sF T) a λaf=>gF P _ _ [mk (some 5) (.assign (tm 14))] af w.drew
 refine gT (p:=⟨V,0,none⟩) (v:=.slice (some ⟨G,0,none⟩) n n) (by rw[bp];exact e2) tf.vK.agg (hc hV) (iF ?_)
 rw[bp,b8 aa,e0]
 refine jC (b:=G) (o:=0) (m:=n) (c:=n) (i:=i) (k:=.i64) (sz:=1) (by simp[bp,gp,lt,bq]) (by simp[bp,gp,lt,bq]) hi tf.sl tf.vU.size ?_
 refine gT (p:=⟨G,0+i*1,none⟩) (v:=d8 x) (by simp[bp,gp,lt,bq]) tf.vU.agg (by rw[aN,Nat.mul_one];exact hc hx) ?_
 refine gT (p:=⟨V,0,none⟩) (v:=.slice (some ⟨G,0,none⟩) n n) (by simp[bp,gp,lt,bq,e2,pt]) tf.vK.agg (hc hV) (iF ?_)
 rw[bp,show Act.get _ 1=.int .i64 (j:Int) from by simp[gp,lt,bq,e1]]
 refine jC (b:=G) (o:=0) (m:=n) (c:=n) (i:=j) (k:=.i64) (sz:=1) (by simp[bp,gp,lt,bq]) (by simp[bp,gp,lt,bq]) hj tf.sl tf.vU.size ?_
 refine gT (p:=⟨G,0+j*1,none⟩) (v:=d8 y) (by simp[bp,gp,lt,bq]) tf.vU.agg (by rw[aN,Nat.mul_one];exact hc hy) ?_
 refine sU (k:=.u32) (k2:=.u32) (m:=(x:Int)) (m2:=(y:Int)) (v:=.bool (decide (x<y))) (by simp[bp,gp,lt,bq,d8]) (by simp[bp,gp,lt,bq,d8]) (λw'=>jK (.inr (.inr (.inl ⟨rfl,by simp⟩)))) ?_
 refine⟨rfl,?_⟩
 have key:∀ (A:Act) (Q:Exit->Act->World->Prop),(Q .normal (A.put (some 5) (A.eval (tm 14))) w.drew)->(mk (some 5) (.assign (tm 14))).wp P A w.drew (gF P (λw'=>w'.heap=w.heap) Q []) (λ_ _ _=>False):=λA Q hQ=>by
  unfold Oper.wp
  exact⟨rfl,hQ⟩
 refine key _ _ (bJ (cs:=[]) (.ret ⟨?_,?_,rfl⟩))
 ·simp only[b6];exact ed
 ·rw[fc]
  simp[bp,gp,lt,bq]
end
end
section
open Go Go.ChangeMaps Go.Shelf Go.Lib Go.Sort
section
variable {P:Program} {ρ:Ren}
def Fx (x y:Nat):Bool:=decide (x<y)
theorem CQ:SWO Fx where
 irrefl x:=by simp[Fx]
 trans x y z h1 h2:=by simp only[Fx,ai]at h1 h2 ⊢;omega
 ntrans x y z h1 h2:=by simp only[Fx,decide_eq_false_iff_not]at h1 h2 ⊢;omega
theorem pW (X:Nat->Prop)(w:World)(os:Array Obj):br X w (grow w os):=⟨rfl,rfl,rfl,by rw[size_grow];omega,λk hk _=>heap_grow_old w os hk⟩
theorem sortOk_of (hm:P.follows .mixedOrders=true){T:TN}(tf:TF P T)(L:LaysGg.n6 P ρ)(hρ:ρ.f 6=T.fSort)(hSE:Ent P T.fSort){nt:Nat}(hfn:FnIs P T.fLess nt [5] (cTLess T))(Jg:15<=nt){it ie:TypeInfo}(hi:P.info? T.tKs=some it)(hd:it.desc=.slice T.tU32)(Tj:P.packed T.tKs=false)
  (YW:P.info? T.tU32=some ie) {ke:Nat} (OA:∀ w,(Extern.Rtype.kind T.tU32).run P w=.ok ke w) (IX:ie.size=1) (O1:ie.bytes=4) (Ln:ie.hasPointers=false) (heg:∀ args w,(callFunc T.fLess args).run P w=.ok (.enter T.fLess args) w)
  {f1 f2 f6 : Nat} (h1 : P.funcs.findIdx? (·.name == "internal/reflectlite" ++ ".Swapper$" ++ toString 1) = some f1) (h2 : P.funcs.findIdx? (·.name == "internal/reflectlite" ++ ".Swapper$" ++ toString 2) = some f2) (h6 : P.funcs.findIdx? (·.name == "internal/reflectlite" ++ ".Swapper$" ++ toString 6) = some f6)
  (hx:∀ args W,(callFunc f6 args).run P W=((Extern.ReflectliteSwapper.swap true args).run P W).andThen λv w'=>.ok (.value v) w'):SortOk P T:=by
 refine⟨hSE,λw V G n ks cur Ka hn hk32 hV hG Js hVG JD=>?_⟩
 rw[<- hρ]
 have QT:G<w.heap.size:=(aj.1 hG).1
 have XM:V<w.heap.size:=(aj.1 hV).1
 by_cases J8:2<=n
 ·have hK:swapperK n ie ke=6:=by
   have c:(n==0)=false:=by simp;omega
   have d:(n==1)=false:=by simp;omega
   simp[swapperK,Ln,O1,c,d]
  have Qr:ks.toArray.size=n:=by simpa using Ka
  have hH:Holds d8 w G 0 ks.toArray:=λj hj=>by
   have Qn:j<ks.length:=by simpa using hj
   have e1:ks[j]?=some ks.toArray[j]!:=by rw[getElem!_pos ks.toArray j hj];simp[Qn]
   have:=JD j _ e1
   refine⟨by simp[World.cell?,hG,this],by simp[World.frozen?,hG]⟩
  have T8:LessReads P T.fLess #[pt V 0] d8 Fx G 0 ks.toArray.size w:=by
   intro m os dk hs i j hi hj
   have XX:Holds d8 (Sort.ahead w m) G 0 ks.toArray:=holds_ahead _ _ _ _ _ _ hH
   have IS:∀ t,t<ks.toArray.size->(sortWorld d8 w G 0 m dk os).cell? ⟨G,t,none⟩=some (d8 dk[t]!):=λt ht=>by
    unfold sortWorld
    rw[cell?_grow _ _ _ (by show G<(putRow d8 (Sort.ahead w m) G 0 dk).heap.size;simp only[putRow,mapBlock];simpa using QT)]
    have:=cell?_putRow d8 (Sort.ahead w m) G 0 ks.toArray dk XX hs t aa
    rwa [aN]at this
   have hcV:(sortWorld d8 w G 0 m dk os).cell? ⟨V,0,none⟩=some (.slice (some ⟨G,0,none⟩) n n):=by
    unfold sortWorld
    rw[cell?_grow _ _ _ (by show V<(putRow d8 (Sort.ahead w m) G 0 dk).heap.size;simp only[putRow,mapBlock];simpa using XM),cell?_putRow_other _ _ _ _ _ _ (.inl hVG)]
    show w.cell? ⟨V,0,none⟩=_
    simp[World.cell?,hV]
   have:=wN hm tf hfn Jg (w:=sortWorld d8 w G 0 m dk os) (V:=V) (G:=G) (n:=n) (i:=i) (j:=j) hcV aa aa (IS i hi) (IS j hj)
   exact this.mono λe w' h=>⟨h.1,1,h.2⟩
  have hS:=Any.sort_Slice_sorted L T.tKs T.tU32 it ie hi hd Tj YW ke OA IX tf.vU.agg d8 (λ_=>rfl) Fx CQ T.fLess #[pt V 0] heg G 0 n ks.toArray aa aa f6 (by rw[Qr,hK];exact h6) true hx w T8 hH QT
  rw[Qr]at hS
  refine hS.mono λe w' h=>?_
  obtain⟨he,d',m,os,hp,N5,rfl⟩:=h
  have hsz':d'.size=n:=hp.1.trans Qr
  have XX:Holds d8 (Sort.ahead w m) G 0 ks.toArray:=holds_ahead _ _ _ _ _ _ hH
  have Zk:(putRow d8 (Sort.ahead w m) G 0 d').heap[G]?=some (.cells (putCells d8 0 d' cur) T.tU32 (0,0)):=by
   simp only[putRow,mapBlock,Array.getElem?_modify,aw]
   show(w.heap[G]?).map _=_
   rw[hG];rfl
  have hPk:br (λk=>k=G) w (putRow d8 (Sort.ahead w m) G 0 d'):=⟨rfl,rfl,rfl,by show w.heap.size<=(w.heap.modify G _).size;simp,λk _ hk=>by
   show(w.heap.modify G _)[k]?=_
   rw[Array.getElem?_modify,al (λe=>hk e.symm)]⟩
  have hPs:(putRow d8 (Sort.ahead w m) G 0 d').heap.size=w.heap.size:=by show(w.heap.modify G _).size=_;simp
  refine⟨he,hPk.trans (pW _ _ _),putCells d8 0 d' cur,d'.toList,by rw[heap_grow_old _ _ aa];exact Zk,?_,?_,λi x hx=>?_⟩
  ·have:=hp.2.2
   have e1:d'.extract 0 n=d':=by rw[<- hsz'];simp
   have e2:ks.toArray.extract 0 n=ks.toArray:=by rw[<- Qr];simp
   rw[e1,e2]at this
   simpa using this
  ·rw[List.pairwise_iff_getElem]
   intro i j hi hj K4
   have Qn:j<n:=by simp at hj;omega
   have:=N5 i j (Nat.zero_le _) K4 aa
   simp only[Fx,decide_eq_false_iff_not]at this
   rw[getElem!_pos d' j aa,getElem!_pos d' i aa]at this
   simp only[Array.getElem_toList]
   omega
  ·have MO:i<d'.size:=by
    have:=(ah.1 hx).1
    simpa using this
   have hc:=cell?_putRow d8 (Sort.ahead w m) G 0 ks.toArray d' XX aa i MO
   have e1:d'[i]! = x:=by
    rw[getElem!_pos d' i MO]
    have:=(ah.1 hx).2
    simpa using this
   simp only[World.cell?,Zk,aN,e1]at hc
   exact hc
 ·have hK:swapperK n ie ke=n+1:=by
   rcases Nat.eq_zero_or_pos n with h|h
   ·subst h;simp[swapperK]
   ·obtain rfl:n=1:=by omega
    simp[swapperK]
  have hf : ∃ f, P.funcs.findIdx? (·.name == "internal/reflectlite" ++ ".Swapper$" ++ toString (swapperK n ie ke)) = some f := by
   rw[hK]
   rcases Nat.eq_zero_or_pos n with h|h
   ·subst h;exact⟨f1,h1⟩
   ·obtain rfl:n=1:=by omega
    exact⟨f2,h2⟩
  obtain⟨f,hf⟩:=hf
  have hS:=Any.sort_Slice_tiny L T.tKs T.tU32 it ie hi hd Tj YW ke OA (some ⟨G,0,none⟩) n n aa f hf (.func T.fLess) #[] #[pt V 0] w
  refine hS.mono λe w' h=>?_
  obtain⟨he,os,rfl⟩:=h
  refine⟨he,pW _ _ _,cur,ks,by rw[heap_grow_old _ _ QT];exact hG,.refl _,?_,JD⟩
  match ks,Ka with
  | [],_=>simp
  | [x],_=>simp
  | x::y::r,h=>simp at h;omega
end
end
theorem fnIsC_of {P : Program} {f : Nat} {fn : Func} {ntmps s t : Nat} {d : Code} (hf : P.funcs[f]? = some fn) (hb : fn.body.map nCode = some d) (hn : fn.ntmps = ntmps) (hr : fn.results = #[ResultVar.cell s t]) (hg : (fn.name == "runtime.NumGoroutine") = false) : FnIsC P f ntmps s t d := by
 cases h:fn.body with
 | none=>rw[h]at hb;cases hb
 | some c=>
  rw[h]at hb
  exact⟨fn,c,hf,h,au hb,hn,hr,hg⟩
def Es (P:Program)(U:Nat):Bool:=match P.info? U with|some i=>(match i.zero with|some _=>i.size==1&&i.bytes==4|none=>false)|none=>false
theorem infoB_ok {P:Program}{U:Nat}(h:Es P U=true):∃ i z,P.info? U=some i/\i.zero=some z/\i.size=1/\i.bytes=4:=by
 unfold Es at h
 split at h
 ·rename_i i hi
  split at h
  ·rename_i z hz
   simp only[ac,ar]at h
   exact⟨i,z,hi,hz,h.1,h.2⟩
  ·cases h
 ·cases h
section
open Go Go.ChangeShapes Go.WideShapes Go.RowKit
section
variable {H:Type} {enc:TypeId × Value->H} {P:Program}
theorem br.butNone {w w':World}(h:br (λ_=>False) w w')(may:MemPlace->Prop):w.keptBut w' may:=
 World.keptBut_mono (λ_ h=>h.elim) (World.keptBut_none_iff.2 ⟨h.os,h.output,λi hi=>h.block i hi id⟩)
theorem errAt_of_var {n:String}{W:World}{g:Nat}{t:TypeId}{x:Value}(hg:P.globalNamed n=some g)(h:W.var? P n=some #[.iface t x]):ErrAt g W:=
 ⟨t,x,by simpa using World.var?_cell hg h 0⟩
end
end
