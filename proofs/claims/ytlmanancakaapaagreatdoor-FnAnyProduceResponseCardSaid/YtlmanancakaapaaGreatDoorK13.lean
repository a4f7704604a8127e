/-
  PLAIN LAWS AND CONTRACTS of messages, part 13 of 15: how readers and writers are printed, what they do, what the reference writes, and that what is written is read as the same. Nothing of a statement stands here.
-/
import Derived.Test.YtlmanancakaapaaGreatDoorK1
import Derived.Test.YtlmanancakaapaaGreatDoorK2
import Derived.Test.YtlmanancakaapaaGreatDoorK3
import Derived.Test.YtlmanancakaapaaGreatDoorK4
import Derived.Test.YtlmanancakaapaaGreatDoorK5
import Derived.Test.YtlmanancakaapaaGreatDoorK6
import Derived.Test.YtlmanancakaapaaGreatDoorK7
import Derived.Test.YtlmanancakaapaaGreatDoorK9
import Derived.Test.YtlmanancakaapaaGreatDoorK10
import Derived.Test.YtlmanancakaapaaGreatDoorK11
import Derived.Test.YtlmanancakaapaaGreatDoorK12
import Derived.Shelf.GgSortFunc.Whole
import Derived.Shelf.GgSortFunc.Tiny
import Derived.Sort.LotA
import Derived.OpenShut
import Derived.ChangeSlices

namespace Go.Proofs.YtlmanancakaapaaGreatDoor.Kx
open Go
def src0 (l:Bs):RS:=⟨l,false,l.isEmpty⟩
def xm_ (kept hf:Bool) (flex:Nat) (fs:Fds) (ver:Int) (l:Bs):Option Bs:=
 match rdMsg hf flex fs (vread kept ver (src0 l)).1 (vread kept ver (src0 l)).2 with
 | .ok v r=>if r.bad then none else some (wrMsg kept hf flex fs (vread kept ver (src0 l)).1 v)
 | _=>none
structure MsgC (P:Program) (gErr te:Nat) (kept hf:Bool) (flex:Nat) (fs:Fds) (toff:Option Nat) (T:Nat) (z:Array Value) (fN fS fR fA:Nat):Prop where
 zpos:0 < z.size
 newE:Ent P fN
 newC:∀ w,Calls P fN #[] w fun e w'=>e=.returned (pt w.heap.size 0)/\Keeps (fun _=>False) w w'/\w'.heap[w.heap.size]?=some (.cells z T (0,0))
 setE:Ent P fS
 setC:∀ (w:World) (B:Nat) (cur:Array Value) (x:Int),w.heap[B]?=some (.cells cur T (0,0))->0 < cur.size->Calls P fS #[pt B 0,.int .i16 x] w fun e w'=>e=.returned (.tuple #[])/\Keeps (·=B) w w'/\w'.heap[B]?=some (.cells (cur.setIfInBounds 0 (.int .i16 x)) T (0,0))
 rdE:Ent P fR
 rdC:∀ (w:World) (B S:Nat) (ver:Int) (srcv:Value) (r0:RS),w.heap[B]?=some (.cells (z.setIfInBounds 0 (.int .i16 ver)) T (0,0))->jz_ w S srcv r0->r0.bad=false->ErrAt gErr w->S < w.heap.size->B ≠ S->gErr ≠ B->rdMsg hf flex fs (vread kept ver r0).1 (vread kept ver r0).2 ≠ .stuck ->
  Calls P fR #[pt B 0,srcv] w fun e w'=>∃ x,e=.returned x/\ReadPost fs toff B S T z.size w (vread kept ver r0).1 (rdMsg hf flex fs (vread kept ver r0).1 (vread kept ver r0).2) x w'
 apE:Ent P fA
 apC:∀ (w:World) (B:Nat) (ver:Int) (vs:List V) (t:List (Nat × Bs)),-32768<=ver/\ver < 32768->B < w.heap.size->w.cell? ⟨B,0,none⟩=some (.int .i16 ver)->RpF w (fun k=>w.heap.size<=k) fs B 0 vs->TgAt w (fun k=>w.heap.size<=k) B 0 toff t->(wrMsg kept hf flex fs ver (.st vs t)).length<=LIM ->
  Calls P fA #[pt B 0,nilS] w fun e w'=>∃ d',e=.returned d'/\jh_ w' w.heap.size te d' (wrMsg kept hf flex fs ver (.st vs t))/\Keeps (fun _=>False) w w'
theorem jh_.sl {w:World} {L te:Nat} {d:Value} {bs:Bs} (h:jh_ w L te d bs):SlRp w (fun _=>False) d bs:=by
 rcases h with ⟨rfl,rfl⟩ | ⟨g,c,cur,rfl,_,hg,hn,hc,hs,hat⟩
 ·exact .inl ⟨rfl,rfl⟩
 ·refine .inr ⟨g,0,c,rfl,id,(Array.getElem?_eq_some_iff.1 hg).1,hn,hc,fun i x hi=>?_⟩
  rw [Nat.zero_add]
  simp [World.cell?,hg,hat i x hi,octv]
theorem vread_range {kept:Bool} {ver:Int} {r:RS} (h:-32768<=ver/\ver < 32768):-32768<=(vread kept ver r).1/\(vread kept ver r).1 < 32768:=by
 cases kept with
 | false=>exact h
 | true=>
  show -32768<=(rI 2 r).1/\(rI 2 r).1 < 32768
  have h1:(rU 2 r).1 < 65536:=by
   unfold rU
   split
   ·decide
   ·have:=unbe_lt (r.src.take 2)
    have hl:(r.src.take 2).length=2:=by rw [List.length_take];omega
    rw [hl] at this
    exact this
  show -32768<=sgn 16 (rU 2 r).1/\sgn 16 (rU 2 r).1 < 32768
  simp only [sgn]
  split <;> omega
section
variable {P:Program} {gErr te:Nat} {kept hf:Bool} {flex:Nat} {fs:Fds} {toff:Option Nat} {T:Nat} {z:Array Value} {fN fS fR fA:Nat}
theorem again_calls (hm:P.follows .mixedOrders=true) (M:MsgC P gErr te kept hf flex fs toff T z fN fS fR fA) {f nt tI16 tInt tSl tErr:Nat} (ot:OctT P tSl te) (hI:P.underlying tI16=some (.int .i16)) (hInt:P.underlying tInt=some (.int .i64)) {ms:Array (String × TypeId)} (hErr:P.underlying tErr=some (.interface ms))
  (hfn:FnIs P f nt [4,5] (cAgain tI16 tInt tSl tErr fN fS fR fA)) (hnt:19<=nt) {w:World} {x:Int} {srcv:Value} {l:Bs} (hsrc:SlRp w (fun _=>False) srcv l) (hll:l.length<=LIM) (herr:ErrAt gErr w)
  (hgo:rdMsg hf flex fs (vread kept (IntKind.i16.wrap x) (src0 l)).1 (vread kept (IntKind.i16.wrap x) (src0 l)).2 ≠ .stuck) (hlim:∀ bs,xm_ kept hf flex fs (IntKind.i16.wrap x) l=some bs->bs.length<=LIM) :
  Calls P f #[.int .i64 x,srcv] w fun e w'=>∃ y b,e=.returned (.tuple #[y,.bool b])/\Keeps (fun _=>False) w w' /\
   (xm_ kept hf flex fs (IntKind.i16.wrap x) l=none->b=false/\y=nilS)/\(∀ bs,xm_ kept hf flex fs (IntKind.i16.wrap x) l=some bs->b=true/\SlRp w' (fun _=>False) y bs):=by
 refine callsA hm hfn (by simp) [.int .i64 x,srcv] (by simp;omega) fun a harg hs hd=>?_
 have g0:=harg 0 _ rfl
 have g1:=harg 1 _ rfl
 have herrlt:gErr < w.heap.size:=by obtain ⟨_,_,h⟩:=herr;exact j2_ h
 generalize hver:IntKind.i16.wrap x=ver at hgo hlim ⊢
 have hvr:-32768<=ver/\ver < 32768:=by rw [<- hver];simp [IntKind.wrap,IntKind.bits,IntKind.signed];omega
 unfold cAgain
 refine qh_ (qj_ (qg_ (qg_ (wpList_nil ?_))))
 refine qh_ (qj_ (qv_ (vs:=#[]) M.newE rfl (M.newC w) fun e w1 hR1=>⟨_,hR1.1,qg_ (wpList_nil ?_)⟩))
 obtain ⟨_,hk1,hb1⟩:=hR1
 have hz1:=hk1.size
 have hBlt:w.heap.size < w1.heap.size:=(Array.getElem?_eq_some_iff.1 hb1).1
 rw [qb_,gpe (by simp only [qa_];omega)]
 have q0:((((a.put (some 4) (Act.eval a (.const nilS))).put (some 5) (Act.eval (a.put (some 4) (Act.eval a (.const nilS))) (.const (.bool false)))).put (some 7) (pt w.heap.size 0)).put (some 6) (pt w.heap.size 0)).get 0=.int .i64 x:=by
  rw [gpo (by omega),gpo (by omega),gpo (by omega),gpo (by omega)];exact g0
 have q1:((((a.put (some 4) (Act.eval a (.const nilS))).put (some 5) (Act.eval (a.put (some 4) (Act.eval a (.const nilS))) (.const (.bool false)))).put (some 7) (pt w.heap.size 0)).put (some 6) (pt w.heap.size 0)).get 1=srcv:=by
  rw [gpo (by omega),gpo (by omega),gpo (by omega),gpo (by omega)];exact g1
 have q6:((((a.put (some 4) (Act.eval a (.const nilS))).put (some 5) (Act.eval (a.put (some 4) (Act.eval a (.const nilS))) (.const (.bool false)))).put (some 7) (pt w.heap.size 0)).put (some 6) (pt w.heap.size 0)).get 6=pt w.heap.size 0:=gpe (by simp only [qa_];omega)
 have qs:((((a.put (some 4) (Act.eval a (.const nilS))).put (some 5) (Act.eval (a.put (some 4) (Act.eval a (.const nilS))) (.const (.bool false)))).put (some 7) (pt w.heap.size 0)).put (some 6) (pt w.heap.size 0)).tmps.size=nt:=by simp only [qa_];exact hs
 have qd:((((a.put (some 4) (Act.eval a (.const nilS))).put (some 5) (Act.eval (a.put (some 4) (Act.eval a (.const nilS))) (.const (.bool false)))).put (some 7) (pt w.heap.size 0)).put (some 6) (pt w.heap.size 0)).defers=[]:=by simp only [qf_];exact hd
 generalize (((a.put (some 4) (Act.eval a (.const nilS))).put (some 5) (Act.eval (a.put (some 4) (Act.eval a (.const nilS))) (.const (.bool false)))).put (some 7) (pt w.heap.size 0)).put (some 6) (pt w.heap.size 0)=a at q0 q1 q6 qs qd ⊢
 generalize hBe:w.heap.size=B at hb1 hBlt q6 hz1 herrlt
 refine qh_ (qj_ (qd_ (qd_ ?_)))
 rw [qb_,q6,qb_,gpo (by omega),q0]
 refine qw_ (k:=.i64) (k':=.i16) (m:=x) (by rw [qb_,gpe (by simp only [qa_];omega)]) hInt hI ?_
 rw [hver]
 refine qv_ (vs:=#[pt B 0,.int .i16 ver]) M.setE ?_ (M.setC w1 B z ver hb1 M.zpos) fun e w2 hR2=>⟨_,hR2.1,wpList_nil ?_⟩
 ·simp only [List.map_cons,List.map_nil,qb_]
  rw [gpo (by omega),gpo (by omega),gpe (by omega),gpe (by simp only [qa_];omega)]
 obtain ⟨_,hk2,hb2⟩:=hR2
 have hz2:=hk2.size
 have p1:((((a.put (some 8) (pt B 0)).put (some 9) (.int .i64 x)).put (some 10) (.int .i16 ver)).put (some 11) (.tuple #[])).get 1=srcv:=by
  rw [gpo (by omega),gpo (by omega),gpo (by omega),gpo (by omega)];exact q1
 have p6:((((a.put (some 8) (pt B 0)).put (some 9) (.int .i64 x)).put (some 10) (.int .i16 ver)).put (some 11) (.tuple #[])).get 6=pt B 0:=by
  rw [gpo (by omega),gpo (by omega),gpo (by omega),gpo (by omega)];exact q6
 have ps:((((a.put (some 8) (pt B 0)).put (some 9) (.int .i64 x)).put (some 10) (.int .i16 ver)).put (some 11) (.tuple #[])).tmps.size=nt:=by simp only [qa_];exact qs
 have pd:((((a.put (some 8) (pt B 0)).put (some 9) (.int .i64 x)).put (some 10) (.int .i16 ver)).put (some 11) (.tuple #[])).defers=[]:=by simp only [qf_];exact qd
 generalize (((a.put (some 8) (pt B 0)).put (some 9) (.int .i64 x)).put (some 10) (.int .i16 ver)).put (some 11) (.tuple #[])=a at p1 p6 ps pd ⊢
 have hk02:Keeps (fun _=>False) w w2:=by
  have:Keeps (fun k=>B<=k) w w2:=(hk1.mono fun _ _ h=>h.elim).trans (hk2.mono fun k _ hk=>by omega)
  exact this.mono fun k hk hX=>by omega
 have hsrc2:SlRp w2 (fun _=>False) srcv l:=hsrc.keep hk02
 have herr2:ErrAt gErr w2:=herr.keep hk02 id
 have hcopy:∃ d' w3 S,(Builtin.append_ #[tSl,tSl] tSl #[nilS,srcv]).run P w2=.ok d' w3/\jz_ w3 S d' (src0 l)/\Keeps (fun _=>False) w2 w3/\S < w3.heap.size/\S ≠ B:=by
  by_cases hl0:l=[]
  ·subst hl0
   have hS:Src P 1 tSl srcv 0 [] w2:=by
    rcases hsrc2 with ⟨rfl,_⟩ | ⟨b,o,c,rfl,_,_,_,_,ho⟩
    ·exact src_nil ot w2 0
    ·exact src_oct ot ho
   exact ⟨nilS,w2,gErr,run_append_nil0 ot hS,.inl ⟨rfl,rfl,rfl⟩,Keeps.refl _ _,by omega,by omega⟩
  ·have hS:Src P 1 tSl srcv l.length (l.map octv) w2:=by
    rcases hsrc2 with ⟨rfl,rfl⟩ | ⟨b,o,c,rfl,_,_,_,_,ho⟩
    ·exact absurd rfl hl0
    ·exact src_oct ot ho
   obtain ⟨d',w3,hr,hg⟩:=run_append_dst (L:=w2.heap.size) (ty:=tSl) ot (jh_.nil w2 w2.heap.size te) hS (Nat.le_refl _) (by simpa using hll)
   rw [List.nil_append] at hg
   have hk3:Keeps (fun _=>False) w2 w3:=hg.keeps.mono fun k _ hk=>by simp [Value.ownBlock] at hk
   rcases hg.dst with ⟨_,h⟩ | ⟨gg,c,cur,rfl,hL,hgb,hn,hc,hsz,hat⟩
   ·exact absurd h hl0
   ·have hlt:gg < w3.heap.size:=(Array.getElem?_eq_some_iff.1 hgb).1
    refine ⟨_,w3,gg,hr,.inr ⟨0,c,rfl,by cases l with | nil=>exact absurd rfl hl0 | cons _ _=>rfl,hn,hc,hlt,fun i y hi=>?_⟩,hk3,hlt,by omega⟩
    rw [Nat.zero_add]
    simp [World.cell?,hgb,hat i y hi,octv]
 obtain ⟨d',w3,S,hrun,hS3,hk3,hSlt,hSB⟩:=hcopy
 have hz3:=hk3.size
 have hb3:w3.heap[B]?=some (.cells (z.setIfInBounds 0 (.int .i16 ver)) T (0,0)):=by rw [hk3.block B (by omega) id];exact hb2
 have herr3:ErrAt gErr w3:=herr2.keep hk3 id
 have hrd:=M.rdC w3 B S ver d' (src0 l) hb3 hS3 rfl herr3 hSlt (by omega) (by omega) hgo
 have hvv:=vread_range (kept:=kept) (r:=src0 l) hvr
 unfold xm_ at hlim ⊢
 generalize hvrd:vread kept ver (src0 l)=vr at hrd hlim hvv hgo ⊢
 generalize hout:rdMsg hf flex fs vr.1 vr.2=out at hrd hlim hgo ⊢
 have hk03:Keeps (fun _=>False) w w3:=hk02.trans hk3
 have head:∀ (b:Bool) (Y:Act->World->Prop) (E:Act->World->Prop),(∀ a4 w4 y,a4.get 16=.bool b->a4.get 6=pt B 0->a4.tmps.size=nt->a4.defers=[]->ReadPost fs toff B S T z.size w3 vr.1 out y w4->Y a4 w4)->(∀ y w4,ReadPost fs toff B S T z.size w3 vr.1 out y w4->(y=.nilIface/\b=false) \/ ((∃ t q,y=.iface t q)/\b=true)) ->
   NWP P (rg [mk (some 12) (.move (tm 6)),mk (some 13) (.move (tm 1)),bi (some 14) .append [.const nilS,tm 13] [tSl,tSl] tSl,cl (some 15) fR [tm 12,tm 14],mk (some 16) (.binOp .neq tErr (tm 15) (.const .nilIface) 0)]) (Rt Y E) a w2:=by
  intro b Y E hY hb
  refine .reg (qd_ (qd_ ?_))
  rw [qb_,p6,qb_,gpo (by omega),p1]
  refine wpList_plain rfl fun _ hK=>?_
  unfold Oper.wp
  have hx:(execOp (Act.eval ((a.put (some 12) (pt B 0)).put (some 13) srcv)) (bi (some 14) .append [.const nilS,tm 13] [tSl,tSl] tSl)).run P w2=.ok (.value d') w3:=by
   have e13:Act.eval ((a.put (some 12) (pt B 0)).put (some 13) srcv) (tm 13)=srcv:=gpe (by simp only [qa_];omega)
   have ec:Act.eval ((a.put (some 12) (pt B 0)).put (some 13) srcv) (.const nilS)=nilS:=rfl
   simp [execOp,bi,resolve,invoke,e13,ec,builtin,hrun]
  rw [hx]
  refine hK _ _ ?_
  refine qv_ (vs:=#[pt B 0,d']) M.rdE ?_ hrd fun e w4 hR4=>?_
  ·simp only [List.map_cons,List.map_nil,qb_]
   show ([Act.get (Act.put _ (some 14) d') 12,Act.get (Act.put _ (some 14) d') 14]:List Value).toArray=_
   rw [gpo (by omega),gpo (by omega),gpe (by omega),gpe (by simp only [qa_];omega)]
  obtain ⟨y,he,hpost⟩:=hR4
  refine ⟨y,he,?_⟩
  show wpList P _ _ _ (Act.put (Act.put _ (some 14) d') (some 15) y) w4
  refine wl_neErr (b:=b) hErr (by rw [qb_,gpe (by simp only [qa_];omega)]) (hb y w4 hpost) (wpList_nil (hY _ w4 y ?_ ?_ ?_ ?_ hpost))
  ·rw [gpe (by simp only [qa_];omega)]
  ·rw [gpo (by omega),gpo (by omega),gpo (by omega),gpo (by omega),gpo (by omega)];exact p6
  ·simp only [qa_];exact ps
  ·simp only [qf_];exact pd
 have kB:∀ w4,Keeps (·=B) w3 w4->Keeps (fun _=>False) w w4:=fun w4 hk=>by
  have:Keeps (fun k=>B<=k) w w4:=(hk03.mono fun _ _ h=>h.elim).trans (hk.mono fun k _ hk=>by omega)
  exact this.mono fun k hk hX=>by omega
 have bad:(∀ y w4,ReadPost fs toff B S T z.size w3 vr.1 out y w4->∃ t q,y=.iface t q)->(match out with | .ok v r=>if r.bad then none else some (wrMsg kept hf flex fs vr.1 v) | _=>none)=(none:Option Bs) ->
   NWP P (sq [.seq (rg [mk (some 12) (.move (tm 6)),mk (some 13) (.move (tm 1)),bi (some 14) .append [.const nilS,tm 13] [tSl,tSl] tSl,cl (some 15) fR [tm 12,tm 14],mk (some 16) (.binOp .neq tErr (tm 15) (.const .nilIface) 0)])
    (.cond (tm 16) (.seq (rg [mk (some 4) (.assign (.const nilS)),mk (some 5) (.assign (.const (.bool false)))]) .ret) .skip),rg [mk (some 17) (.move (tm 6)),cl (some 18) fA [tm 17,.const nilS],mk (some 4) (.assign (tm 18)),mk (some 5) (.assign (.const (.bool true)))],.ret])
    (Rt (fun a' w'=>a'.defers=[]/\∃ y b,Ending.returned (zl_ [4,5] a')=.returned (.tuple #[y,.bool b])/\Keeps (fun _=>False) w w'/\((match out with | .ok v r=>if r.bad then none else some (wrMsg kept hf flex fs vr.1 v) | _=>none)=none->b=false/\y=nilS)/\(∀ bs,(match out with | .ok v r=>if r.bad then none else some (wrMsg kept hf flex fs vr.1 v) | _=>none)=some bs->b=true/\SlRp w' (fun _=>False) y bs))
     (fun a' w'=>a'.defers=[]/\∃ y b,Ending.returned (zl_ [4,5] a')=.returned (.tuple #[y,.bool b])/\Keeps (fun _=>False) w w'/\((match out with | .ok v r=>if r.bad then none else some (wrMsg kept hf flex fs vr.1 v) | _=>none)=none->b=false/\y=nilS)/\(∀ bs,(match out with | .ok v r=>if r.bad then none else some (wrMsg kept hf flex fs vr.1 v) | _=>none)=some bs->b=true/\SlRp w' (fun _=>False) y bs))) a w2:=by
  intro hiface hnone
  refine qh_ ?_
  rw [qr_]
  refine .seq (head true _ _ (fun a4 w4 y h16 h6 hs4 hd4 hpost=>?_) (fun y w4 hp=>.inr ⟨hiface y w4 hp,rfl⟩)) (fun a1 w1 hh=>hh) (fun e a w he hq=>by cases e <;> first | exact absurd rfl he | exact hq | exact hq.elim)
  refine .condT h16 (qh_ (cs:=[.ret]) (qj_ (qg_ (qg_ (wpList_nil (.ret ⟨?_,nilS,false,?_,kB w4 hpost.1,fun _=>⟨rfl,rfl⟩,fun bs hbs=>?_⟩))))))
  ·simp only [qf_];exact hd4
  ·show Ending.returned (.tuple #[Act.get _ 4,Act.get _ 5])=_
   rw [gpo (by omega),gpe (by omega),gpe (by simp only [qa_];omega)]
   rfl
  ·rw [hnone] at hbs;cases hbs
 cases out with
 | stuck=>exact absurd rfl hgo
 | err=>exact bad (fun y w4 hp=>hp.2) rfl
 | ok v r=>
  by_cases hbadr:r.bad=true
  ·exact bad (fun y w4 hp=>hp.2.2.1 hbadr) (by simp [hbadr])
  ·have hbf:r.bad=false:=by simpa using hbadr
   simp only [hbf,Bool.false_eq_true,if_false] at hlim ⊢
   have hlim':=hlim _ rfl
   refine qh_ ?_
   rw [qr_]
   refine .seq (head false _ _ (fun a4 w4 y h16 h6 hs4 hd4 hpost=>?_) (fun y w4 hp=>.inl ⟨hp.2.1 hbf,rfl⟩)) (fun a1 w1 hh=>hh) (fun e a w he hq=>by cases e <;> first | exact absurd rfl he | exact hq | exact hq.elim)
   refine .condF h16 (.skip (qh_ (qj_ (qd_ ?_))))
   rw [qb_,h6]
   obtain ⟨hkB,_,_,vs,t,cur,rfl,hbB,hcsz,hc0,hfar,hft⟩:=hpost
   have hlt4:B < w4.heap.size:=(Array.getElem?_eq_some_iff.1 hbB).1
   have hz4:=hkB.size
   have hcell:w4.cell? ⟨B,0,none⟩=some (.int .i16 vr.1):=by simp [World.cell?,hbB,hc0]
   have hrp:RpF w4 (fun k=>w4.heap.size<=k) fs B 0 vs:=RpF.mono (fun k hk hX=>by omega) fs B 0 vs (hfar (fun _=>False) (fun _ h=>h.elim) id)
   have htg:TgAt w4 (fun k=>w4.heap.size<=k) B 0 toff t:=(hft (fun _=>False) (fun _ h=>h.elim) id).mono fun k hk hX=>by omega
   refine qv_ (vs:=#[pt B 0,nilS]) M.apE ?_ (M.apC w4 B vr.1 vs t hvv hlt4 hcell hrp htg hlim') fun e w5 hR5=>?_
   ·simp only [List.map_cons,List.map_nil,qb_]
    rw [gpe (by omega)]
    rfl
   obtain ⟨d5,he5,hd5,hk5⟩:=hR5
   refine ⟨d5,he5,qg_ (qg_ (wpList_nil (qh_ (.ret ⟨?_,d5,true,?_,(kB w4 hkB).trans hk5,(fun h=>by cases h),fun bs hbs=>⟨rfl,?_⟩⟩))))⟩
   ·simp only [qf_];exact hd4
   ·show Ending.returned (.tuple #[Act.get _ 4,Act.get _ 5])=_
    rw [gpo (by omega),gpe (by simp only [qa_];omega),gpe (by simp only [qa_];omega),qb_,gpe (by simp only [qa_];omega)]
    rfl
   ·obtain rfl:=Option.some.inj hbs
    exact hd5.sl
end
end Go.Proofs.YtlmanancakaapaaGreatDoor.Kx

namespace Go.Proofs.YtlmanancakaapaaGreatDoor.Kx
def lawMsg (hf:Bool) (flex:Nat) (fs:Fds) (ver:Int):Bool:=
 lawFds (hf && decide ((flex:Int)<=ver)) ver fs &&
 match fs.lst with
 | some (t,_,esz,e)=>decide (t < 4294967296) && decide (esz<=10000) && posTy (hf && decide ((flex:Int)<=ver)) ver e && lawTy (hf && decide ((flex:Int)<=ver)) ver e
 | none=>false
theorem rw_msg {hf:Bool} {flex:Nat} {fs:Fds} {ver:Int} (h:lawMsg hf flex fs ver=true):RW (rdMsg hf flex fs ver) (wrMsg false hf flex fs ver):=by
 simp only [lawMsg,Bool.and_eq_true] at h
 obtain ⟨hl,h⟩:=h
 split at h
 ·rename_i t off esz e hls
  simp only [Bool.and_eq_true,decide_eq_true_eq] at h
  obtain ⟨⟨⟨ht,hesz⟩,hpe⟩,hle⟩:=h
  have htg:=lst_tagged hls
  have hr:∀ b,rdTagR b ver fs=rdTagL b ver t esz e:=fun b=>by simp only [rdTagR,hls]
  have e1:rdMsg hf flex fs ver=jb_ (hf && decide ((flex:Int)<=ver)) true (rdFds (hf && decide ((flex:Int)<=ver)) ver fs) (rdTagL (hf && decide ((flex:Int)<=ver)) ver t esz e):=by
   funext r
   rw [rdMsg,htg,hr]
  have e2:wrMsg false hf flex fs ver=fun v=>wrFds (hf && decide ((flex:Int)<=ver)) ver fs v.fields++zy_ (hf && decide ((flex:Int)<=ver)) (wrTgd (hf && decide ((flex:Int)<=ver)) ver fs v.fields) v.tags:=by
   funext v
   simp only [wrMsg,Bool.false_eq_true,if_false,List.nil_append]
  rw [e1,e2]
  obtain ⟨i1,i2⟩:=law_ty (hf && decide ((flex:Int)<=ver)) ver e 0 hle
  exact rw_last hls ht hesz i1 (i2 hpe) (law_fds _ _ fs hl).1
 ·cases h
theorem go_msg {hf:Bool} {flex:Nat} {fs:Fds} {ver:Int} (h:lawMsg hf flex fs ver=true) (l:Bs) (hl:l.length<=BIG):rdMsg hf flex fs ver (src0 l) ≠ .stuck:=(rw_msg h).go _ hl
theorem againOut_some {hf:Bool} {flex:Nat} {fs:Fds} {ver:Int} {l bs:Bs} (h:xm_ false hf flex fs ver l=some bs):∃ v r,rdMsg hf flex fs ver (src0 l)=.ok v r/\r.bad=false/\bs=wrMsg false hf flex fs ver v:=by
 simp only [xm_,vread,Bool.false_eq_true,if_false] at h
 split at h
 ·rename_i v r hv
  by_cases hb:r.bad=true
  ·rw [if_pos hb] at h;cases h
  ·rw [if_neg hb] at h
   exact ⟨v,r,hv,by simpa using hb,(Option.some.inj h).symm⟩
 ·cases h
theorem again_len {hf:Bool} {flex:Nat} {fs:Fds} {ver:Int} (hm:lawMsg hf flex fs ver=true) {l bs:Bs} (h:xm_ false hf flex fs ver l=some bs):bs.length<=l.length:=by
 obtain ⟨v,r,hv,hb,rfl⟩:=againOut_some h
 have:=(rw_msg hm).len _ _ _ hv hb
 simp only [src0] at this
 omega
theorem again_same {hf:Bool} {flex:Nat} {fs:Fds} {ver:Int} (hm:lawMsg hf flex fs ver=true) {l bs:Bs} (hl:l.length<=BIG) (h:xm_ false hf flex fs ver l=some bs):xm_ false hf flex fs ver bs=some bs:=by
 have hlen:=again_len hm h
 obtain ⟨v,r,hv,hb,rfl⟩:=againOut_some h
 obtain ⟨v2,h2,h3⟩:=(rw_msg hm).again _ _ _ hv hb [] (wrMsg false hf flex fs ver v).isEmpty (fun hh=>by simpa using hh) (by simpa using Nat.le_trans hlen hl)
 rw [List.append_nil] at h2
 have e:rdMsg hf flex fs ver (src0 (wrMsg false hf flex fs ver v))=.ok v2 ⟨[],false,(wrMsg false hf flex fs ver v).isEmpty⟩:=h2
 simp only [xm_,vread,Bool.false_eq_true,if_false,e,h3]
section
variable {P:Program} {gErr te T:Nat} {hf:Bool} {flex:Nat} {fs:Fds} {toff:Option Nat} {z:Array Value} {fN fS fR fA:Nat}
theorem any_law (hm:P.follows .mixedOrders=true) (M:MsgC P gErr te false hf flex fs toff T z fN fS fR fA) {tI16 tInt tSl tErr tB fAg fV fSm fM fMV f ntAg ntV ntSm ntM ntMV nt most:Nat}
  (ot:OctT P tSl te) (h8:jp_ P te false 1) (hI:P.underlying tI16=some (.int .i16)) (hInt:P.underlying tInt=some (.int .i64)) (hU8:P.underlying te=some (.int .u8)) (hErr:∃ ms,P.underlying tErr=some (.interface ms))
  (hAg:FnIs P fAg ntAg [4,5] (cAgain tI16 tInt tSl tErr fN fS fR fA)) (hnAg:19<=ntAg) (hV:FnIs P fV ntV [4] (cVer te tInt)) (hnV:10<=ntV) (hSm:FnIs P fSm ntSm [4] (cSame tSl te tInt)) (hnSm:26<=ntSm)
  (hM:FnIs P fM ntM [0] (cMax tI16 tInt fN fMV)) (hnM:4<=ntM) (hMV:FnIs P fMV ntMV [2] (cMaxV (most:Int))) (hnMV:3<=ntMV) (hmost:most < 32768) (hf0:FnIs P f nt [4] (cAny tSl tInt tB fM fV fAg fSm)) (hnt:43<=nt)
  (hlaw:((List.range (most + 1)).all fun v=>lawMsg hf flex fs (v:Int))=true) {w:World} {x0:Nat} {srcv:Value} {l:Bs} (hx:x0 < 256) (hsrc:SlRp w (fun _=>False) srcv l) (herr:ErrAt gErr w) :
  Calls P f #[.int .u8 x0,srcv] w fun e w'=>e=.returned (.bool true)/\Keeps (fun _=>False) w w':=by
 obtain ⟨ms,hErr⟩:=hErr
 have hl:∀ v:Nat,v<=most->lawMsg hf flex fs (v:Int)=true:=fun v hv=>by
  have:=List.all_eq_true.1 hlaw v (by simp;omega)
  simpa using this
 refine any_calls hm (most:=most) (out:=fun x l=>xm_ false hf flex fs x l) (okIn:=fun x l=>(∃ v:Nat,v<=most/\x=(v:Int))/\l.length<=1000) ot hInt hf0 hnt hM.ent (fun w=>?_) hV.ent (fun w=>ver_calls hm hU8 hInt hx hmost hV hnV) hAg.ent ?_ hSm.ent (fun w va vb la lb ha hb hla=>same_calls hm ot h8 hSm hnSm ha hb hla) hsrc herr fun hl0=>?_
 ·exact max_calls hm hI hInt hmost hM hnM M.newE ((M.newC w).mono fun e w' h=>⟨h.1,h.2.1⟩) hMV.ent fun w=>maxV_calls hm hMV hnMV
 ·intro w x srcv l hs he hok
  obtain ⟨⟨v,hv,rfl⟩,hlen⟩:=hok
  have hw:IntKind.i16.wrap (v:Int)=v:=by simp [IntKind.wrap,IntKind.bits,IntKind.signed];omega
  have hgo:=go_msg (hl v hv) l (by simp only [BIG];omega)
  have:=again_calls hm M ot hI hInt hErr hAg hnAg (x:=(v:Int)) hs (by simp only [LIM];omega) he (by rw [hw];exact hgo) (by
   rw [hw]
   intro bs hbs
   have:=again_len (hl v hv) hbs
   simp only [LIM];omega)
  rw [hw] at this
  exact this
 ·have hv:x0 % (most + 1)<=most:=by have:=Nat.mod_lt x0 (show 0 < most + 1 by omega);omega
  refine ⟨⟨⟨_,hv,rfl⟩,hl0⟩,fun bs hbs=>?_⟩
  have hlen:=again_len (hl _ hv) hbs
  refine ⟨by simp only [maxLen];omega,⟨⟨_,hv,rfl⟩,by omega⟩,again_same (hl _ hv) (by simp only [BIG];omega) hbs⟩
theorem msgC_of {g:G} {gw:GW} {av avw:PF->Bool} {fl flw nl:Bool} {D:Nat->Option (List (Nat × Value))} (En:Env P g av fl D) (K0:KW P gw avw flw nl te) {cx cw:Cx} {fD fRf kt ktw n0 n0w ntN ntS ntR ntRf ntA v6 tI16:Nat} {nm:Nm} {ms:Nm} {zv:Value} {wr:List (Nat × Value)}
  (hfl:cx.hf=true->fl=true) (hflw:cw.hf=true->flw=true) (hcx:cx.hf=hf) (hcw:cw.hf=hf) (hN:FnIs P fN ntN [0] (cNewPtr T fD)) (hnN:3<=ntN) (hS:FnIs P fS ntS [] (cSetV T tI16)) (hnS:8<=ntS) (hR:FnIs P fR ntR [4] (cRdF fRf)) (hnR:8<=ntR)
  (hRf:FnIs P fRf ntRf [6] (gRead g cx.hf false cx fs fD T kt flex n0 nm)) (h17:n0 + 17<=ntRf) (hlst:lastOk P fs nm=true) (hA:FnIs P fA ntA [4] (gWrite gw false cw fs T ktw flex v6 n0w ms)) (hzv:zeroOf P T=some zv) (hD:D fD=some wr) (hz:z=applyWr zv.cells 0 wr) (hz0:0 < z.size) (hwr:(wr.all fun p=>decide (p.1 < zv.cells.size))=true)
  (hF:fldB P T 0 tI16 0 false 1=true) (hg:g.gErr=gErr) (hchk:topOk ⟨P,g,av,D⟩ false cx fs fD T kt toff n0 ntRf nm z (topUsed g false cx fs fD T kt flex n0 nm)=true)
  (hchkW:topOkW ⟨P,gw,avw,nl⟩ false cw fs T ktw toff v6 n0w ntA ms (topUsedW gw false cw fs T ktw flex v6 n0w ms)=true):MsgC P gErr te false hf flex fs toff T z fN fS fR fA where
 zpos:=hz0
 newE:=hN.ent
 newC w:=by
  obtain ⟨hE,hDf⟩:=En.df _ _ hD
  rw [hz]
  exact newPtr_calls En.kb.mixed hN hnN hzv hE hDf (fun p hp=>by simpa using List.all_eq_true.1 hwr p hp) w
 setE:=hS.ent
 setC w B cur x hB h0:=setV_calls En.kb.mixed hS hnS (fldB_ok hF) hB h0
 rdE:=hR.ent
 rdC w B S ver srcv r0 hB hsrc hbad herr hSl hBS hgB hgo:=by
  subst hcx hg
  exact rdF_calls En.kb.mixed hR hnR hRf.ent (read_fn En hfl hRf hchk h17 hlst hB hsrc hbad herr hSl hBS hgB hgo)
 apE:=hA.ent
 apC w B ver vs t hver hB hcell hr ht hlim:=by
  subst hcw
  exact write_fn K0 hflw hA hchkW hver hB hcell hr ht hlim
end
end Go.Proofs.YtlmanancakaapaaGreatDoor.Kx

namespace Go.Proofs.YtlmanancakaapaaGreatDoor.Kx
open Go Go.ChangeMaps
section
variable {P:Program}
theorem wl_buildOne {tS te:Nat} (hS:P.underlying tS=some (.slice te)) (hi:∃ i z,P.info? te=some i/\i.zero=some z/\i.size=1/\i.bytes=4) {ops:Array Oper} {Q:Exit->Act->World->Prop} {r:List Oper} {a:Act} {w:World} {d:Option Nat} {y:Operand} {k:Nat} (hy:a.eval y=z8_ k)
  (h:wpList P ops Q r (a.put d (.slice (some ⟨w.heap.size,0,none⟩) 1 1)) (w.alloc (.cells #[z8_ k] te (0,0)))):wpList P ops Q (mk d (.buildSlice tS 1 #[(0,y)]) :: r) a w:=by
 obtain ⟨i,z,hi,hz,hsz,_⟩:=hi
 refine qn_ (w':=w.alloc (.cells #[z8_ k] te (0,0))) ?_ h
 have hfill:=fill_one [z8_ k] 0 ((Array.range 1).map fun k=>z.cells[k % z.cells.size]!) (fun v hv=>by
  simp only [List.mem_singleton] at hv
  subst hv
  rfl) (by simp)
 rw [zu_ (by simp)] at hfill
 simp [prs] at hfill
 simp [execOp,mk,Instr.buildSlice,run_underlying hS,sizeOf,typeInfo,zeroValue,hi,hz,hsz,hy,hfill,newRow,newObj,Sem.run]
theorem wl_bi {ops:Array Oper} {Q:Exit->Act->World->Prop} {r:List Oper} {a:Act} {w w':World} {d:Option Nat} {b:Builtin} {args:List Operand} {tys:List Nat} {ty:Nat} {v:Value} (h:(execOp a.eval (bi d b args tys ty)).run P w=.ok (.value v) w') (hk:wpList P ops Q r (a.put d v) w'):wpList P ops Q (bi d b args tys ty :: r) a w:=by
 refine wpList_plain rfl fun _ hK=>?_
 unfold Oper.wp
 rw [h]
 exact hK _ _ hk
def boxLen (w:World) (V:Nat):Nat:=match w.heap[V]? with | some (.cells cs _ _)=>(match (cs[0]?:Option Value) with | some (.slice _ n _)=>n | _=>0) | _=>0
theorem s_gather {T:TN} (tf:TF P T) {w0 w:World} {q it V G clock:Nat} {es:List jd_} {a:Act} {K E:Act->World->Prop} (h24:a.get 24=pt it 0) (h4:a.get 4=pt V 0) (hs:53<=a.tmps.size) (hg:Gath T w0 q it V G clock es [] w) (hb:∀ e ∈ es,e.born < clock) (hn:(es.map jd_.born).Nodup)
  (h:∀ a' w' L,(∀ i,i < 4->a'.get i=a.get i)->a'.get 4=pt V 0->a'.tmps.size=a.tmps.size->a'.defers=a.defers->Gath T w0 q it V G clock es L w'->(∀ e ∈ es,e.born ∈ L.map jd_.born)->K a' w'):NWP P (.block 0 (eachLoop T)) (Rt K E) a w:=by
 have hgle:∀ L w1,Gath T w0 q it V G clock es L w1->boxLen w1 V=L.length:=fun L w1 hg1=>by simp [boxLen,hg1.box]
 refine .block (.loop (fun a1 w1=>∃ L,Gath T w0 q it V G clock es L w1/\(∀ i,i < 4->a1.get i=a.get i)/\a1.get 4=pt V 0/\a1.get 24=pt it 0/\a1.tmps.size=a.tmps.size/\a1.defers=a.defers) (fun _ w1=>es.length - boxLen w1 V) ⟨[],hg,fun _ _=>rfl,h4,h24,rfl,rfl⟩ ?_)
 rintro a1 w1 ⟨L,hg1,hlow,e4,e24,hs1,hd1⟩
 have lt:∀ d,d < 53->d < a1.tmps.size:=fun d hd=>by omega
 have hle:=hg1.le
 rcases hg1.next (P:=P) hb 0 with ⟨hall,hr⟩ | ⟨e,he,hnew,w2,hw2,hr⟩
 ·-- all have come
  refine .seq (R:=Rt (fun a2 w3=>a2=(a1.put (some 25) (.tuple #[.bool false])).put (some 26) (.bool false)/\w3=w1) fun _ _=>False) (.reg ?_) (fun a2 w3 hh=>?_) (fun e a w he hq=>by cases e <;> first | exact absurd rfl he | exact hq.elim)
  ·refine qn_ (v:=.tuple #[.bool false]) (w':=w1) (by simp [execOp,mk,qb_,e24,hr]) ?_
   refine wl_extract (vs:=#[.bool false]) (v:=.bool false) (by rw [qb_,gpe (lt _ (by omega))]) rfl (wpList_nil ⟨rfl,rfl⟩)
  obtain ⟨rfl,rfl⟩:=hh
  refine .seq (R:=Exit.then (fun _ _=>False) (Exit.inBlock 0 (Rt K E))) (.condF (by rw [qb_,gpe (by simp only [qa_];exact lt _ (by omega))]) (.exit ?_)) (fun _ _ hh=>hh.elim) (fun e a w he hq=>by rw [zc_ he] at hq ⊢;exact hq)
  show K _ _
  refine h _ _ L (fun i hi=>?_) ?_ ?_ ?_ hg1 hall
  ·rw [gpo (by omega),gpo (by omega)];exact hlow i hi
  ·rw [gpo (by omega),gpo (by omega)];exact e4
  ·simp only [qa_];exact hs1
  ·simp only [qf_];exact hd1
 ·-- one more
  have hseen:((L++[e]).map jd_.born).toArray=(L.map jd_.born).toArray.push e.born:=by simp
  have hw2h:w2.heap=w1.heap:=by rcases hw2 with rfl | rfl <;> rfl
  have hk12:Keeps (fun _=>False) w1 w2:=by
   rcases hw2 with rfl | rfl
   ·exact Keeps.refl _ _
   ·exact Keeps.drew _ _
  obtain ⟨n1,n2,n3,n4,n5,n6,n7⟩:=hg1.new
  have hlt:∀ k,w1.heap[k]? ≠ none->k < w1.heap.size:=fun k hk=>by
   rcases Nat.lt_or_ge k w1.heap.size with h | h
   ·exact h
   ·exact absurd (Array.getElem?_eq_none h) hk
  have hitl:it < w2.heap.size:=by rw [hw2h];exact hlt it (by rw [hg1.iter];simp)
  generalize hW:setBlock w2 it (.mapIter (some q) clock ((L++[e]).map jd_.born).toArray clock)=W at hr
  have hWit:W.heap[it]?=some (.mapIter (some q) clock ((L++[e]).map jd_.born).toArray clock):=by rw [<- hW];exact heap_set_self hitl
  have hWne:∀ k,k ≠ it->W.heap[k]?=w1.heap[k]?:=fun k hk=>by rw [<- hW,heap_set_ne hk,hw2h]
  have hWs:W.heap.size=w1.heap.size:=by rw [<- hW,<- hw2h];show (w2.heap.setIfInBounds it _).size=_;simp
  have hKW:Keeps (fun k=>k=it) w1 W:=by
   rw [<- hW]
   exact (hk12.mono fun _ _ h=>h.elim).trans (keeps_set (X:=fun k=>k=it) rfl)
  have hq:W.heap[q]?=some (.map (es.map jd_.entry).toArray clock):=by rw [hWne q (by omega)];exact hg1.mp
  obtain ⟨cur,hrow,hcs,hat⟩:=hg1.row
  have hGW:W.heap[G]?=some (.cells cur T.tU32 (0,0)):=by rw [hWne G n6];exact hrow
  have hVW:W.heap[V]?=some (.cells #[.slice (some ⟨G,0,none⟩) L.length es.length] T.tKs (0,0)):=by rw [hWne V n5];exact hg1.box
  have hGl:G < W.heap.size:=by rw [hWs];exact hlt G (by rw [hrow];simp)
  have hVl:V < W.heap.size:=by rw [hWs];exact hlt V (by rw [hg1.box];simp)
  have hnod:((L++[e]).map jd_.born).Nodup:=by
   rw [List.map_append,List.nodup_append]
   refine ⟨hg1.nod,by simp,fun x hx y hy=>?_⟩
   simp only [List.map_cons,List.map_nil,List.mem_singleton] at hy
   subst hy
   exact fun hxy=>hnew (hxy ▸ hx)
  have hsub:∀ x ∈ L++[e],x ∈ es:=fun x hx=>by
   rcases List.mem_append.1 hx with hx | hx
   ·exact hg1.sub x hx
   ·simp only [List.mem_singleton] at hx;subst hx;exact he
  have hlen:L.length + 1<=es.length:=by
   have hg':Gath T w0 q it V G clock es [] w:=hg
   have:=Gath.le (T:=T) (w0:=w) (q:=q) (it:=it) (V:=V) (G:=G) (clock:=clock) (es:=es) (L:=L++[e])
    (w:=setBlock (setBlock w2 it (.mapIter (some q) clock ((L++[e]).map jd_.born).toArray clock)) V (.cells #[.slice (some ⟨G,0,none⟩) (L++[e]).length es.length] T.tKs (0,0)))
   clear this hg'
   have key:∀ (l m:List Nat),l.Nodup->(∀ x ∈ l,x ∈ m)->l.length<=m.length:=by
    intro l
    induction l with
    | nil=>intro m _ _;simp
    | cons a l ih=>
     intro m hl hs
     obtain ⟨h1,h2⟩:=List.nodup_cons.1 hl
     have hm:a ∈ m:=hs a (by simp)
     have:=ih (m.erase a) h2 fun x hx=>(List.mem_erase_of_ne (fun e=>h1 (by rw [<- e];exact hx))).2 (hs x (by simp [hx]))
     rw [List.length_erase_of_mem hm] at this
     have:=List.length_pos_of_mem hm
     simp only [List.length_cons]
     omega
   have:=key ((L++[e]).map jd_.born) (es.map jd_.born) hnod fun x hx=>by
    obtain ⟨y,hy,rfl⟩:=List.mem_map.1 hx
    exact List.mem_map.2 ⟨y,hsub y hy,rfl⟩
   simpa using this
  refine .seq (R:=Rt (fun a2 w3=>a2=(a1.put (some 25) (.tuple #[.bool true,z8_ e.key,e.val])).put (some 26) (.bool true)/\w3=W) fun _ _=>False) (.reg ?_) (fun a2 w3 hh=>?_) (fun e a w he hq=>by cases e <;> first | exact absurd rfl he | exact hq.elim)
  ·refine qn_ (v:=.tuple #[.bool true,z8_ e.key,e.val]) (w':=W) (by simp [execOp,mk,qb_,e24,hr]) ?_
   refine wl_extract (vs:=#[.bool true,z8_ e.key,e.val]) (v:=.bool true) (by rw [qb_,gpe (lt _ (by omega))]) rfl (wpList_nil ⟨rfl,rfl⟩)
  obtain ⟨rfl,rfl⟩:=hh
  refine .seq (R:=Rt (fun a' w'=>a'=(a1.put (some 25) (.tuple #[.bool true,z8_ e.key,e.val])).put (some 26) (.bool true)/\w'=w3) fun _ _=>False) (.condT (by rw [qb_,gpe (by simp only [qa_];exact lt _ (by omega))]) (.skip ⟨rfl,rfl⟩)) (fun a2 w4 hh=>?_) (fun e a w he hq=>by cases e <;> first | exact absurd rfl he | exact hq.elim)
  obtain ⟨rfl,rfl⟩:=hh
  refine .block ?_
  unfold eachBody
  have hent:(Instr.entry (pt it 0)).run P w4=.ok (.tuple #[z8_ e.key,e.val]) w4:=by
   have:=run_entry_at (P:=P) w4 it q clock (L.map jd_.born).toArray (es.map jd_.entry).toArray clock e.entry (by rw [hWit,hseen];rfl) hq (by simpa using ⟨e,he,rfl⟩) (by
    have e1:((es.map jd_.entry).toArray.toList.map (·.born))=es.map jd_.born:=by simp [jd_.entry,Function.comp_def]
    rw [e1];exact hn)
   simpa [pt,jd_.entry,z8_] using this
  refine .seq (R:=Rt (fun a3 w5=>(∀ i,i < 4->a3.get i=a.get i)/\a3.get 4=pt V 0/\a3.get 24=pt it 0/\a3.get 5=z8_ e.key/\a3.tmps.size=a.tmps.size/\a3.defers=a.defers/\w5=w4) fun _ _=>False) (.reg ?_) (fun a3 w5 hh=>?_) (fun e a w he hq=>by cases e <;> first | exact absurd rfl he | exact hq.elim)
  ·refine qn_ (v:=.tuple #[z8_ e.key,e.val]) (w':=w4) (by simp [execOp,mk,qb_,gp,lt,qa_,e24,hent]) ?_
   refine wl_extract (vs:=#[z8_ e.key,e.val]) (v:=z8_ e.key) (by simp [qb_,gp,lt,qa_]) rfl (qg_ (wpList_nil ⟨fun i hi=>?_,?_,?_,?_,?_,?_,rfl⟩))
   ·iterate 5 rw [gpo (by omega)]
    exact hlow i hi
   ·iterate 5 rw [gpo (by omega)]
    exact e4
   ·iterate 5 rw [gpo (by omega)]
    exact e24
   ·simp [qb_,gp,lt,qa_]
   ·simp only [qa_];exact hs1
   ·simp only [qf_];exact hd1
  obtain ⟨f0,f4,f24,f5,fs,fd,rfl⟩:=hh
  have lt3:∀ d,d < 53->d < a3.tmps.size:=fun d hd=>by omega
  refine .reg ?_
  refine q5_ (p:=⟨V,0,none⟩) (v:=.slice (some ⟨G,0,none⟩) L.length es.length) (by rw [qb_,f4];rfl) (tf.vK.agg _) (by simp [World.cell?,hVW]) (qd_ ?_)
  rw [qb_,gpo (by omega),f5]
  refine wl_buildOne tf.sl tf.info (k:=e.key) (by simp [qb_,gp,lt3,qa_]) ?_
  have hWal:∀ k,k < w5.heap.size->(w5.alloc (.cells #[z8_ e.key] T.tU32 (0,0))).heap[k]?=w5.heap[k]?:=fun k hk=>q4_ hk
  have happ:=run_append_room (P:=P) (w:=w5.alloc (.cells #[z8_ e.key] T.tU32 (0,0))) (tS:=T.tKs) (te:=T.tU32) (G:=G) (n:=es.length) (cur:=cur) (v:=z8_ e.key) (X:=w5.heap.size) (c:=1) (x:=L.length) (ty:=T.tKs) tf.sl
   (by obtain ⟨i,_,h1,_,h2,_⟩:=tf.info;exact ⟨i,h1,h2⟩) (by rw [hWal G hGl];exact hGW) hcs (by omega) (by
    have hn:=qs_ w5 (.cells #[z8_ e.key] T.tU32 (0,0))
    simp only [World.cell?,hn]
    rfl) rfl
  refine wl_bi (v:=.slice (some ⟨G,0,none⟩) (L.length + 1) es.length) (w':=(w5.alloc (.cells #[z8_ e.key] T.tU32 (0,0))).setRow G (cur.setIfInBounds L.length (z8_ e.key))) ?_ ?_
  ·have e29:Act.eval ((((a3.put (some 29) (.slice (some ⟨G,0,none⟩) L.length es.length)).put (some 30) (z8_ e.key)).put (some 31) (.slice (some ⟨w5.heap.size,0,none⟩) 1 1))) (tm 29)=.slice (some ⟨G,0,none⟩) L.length es.length:=by simp [qb_,gp,lt3,qa_]
   have e31:Act.eval ((((a3.put (some 29) (.slice (some ⟨G,0,none⟩) L.length es.length)).put (some 30) (z8_ e.key)).put (some 31) (.slice (some ⟨w5.heap.size,0,none⟩) 1 1))) (tm 31)=.slice (some ⟨w5.heap.size,0,none⟩) 1 1:=by simp [qb_,gp,lt3,qa_]
   simp [execOp,bi,resolve,invoke,e29,e31,builtin,happ]
  generalize hW5:(w5.alloc (.cells #[z8_ e.key] T.tU32 (0,0))).setRow G (cur.setIfInBounds L.length (z8_ e.key))=W5
  have hK5:Keeps (fun k=>k=G) w5 W5:=by
   rw [<- hW5]
   exact (Keeps.alloc _ _ _).trans (Keeps.setRow _ _ _ _ rfl)
  have hV5:W5.heap[V]?=some (.cells #[.slice (some ⟨G,0,none⟩) L.length es.length] T.tKs (0,0)):=by rw [hK5.block V hVl n4];exact hVW
  have hG5:W5.heap[G]?=some (.cells (cur.setIfInBounds L.length (z8_ e.key)) T.tU32 (0,0)):=by
   rw [<- hW5]
   exact setRow_heap _ _ _ _ _ _ (by rw [hWal G hGl];exact hGW)
  refine q8_ (g:=V) (o:=0) (cur:=#[.slice (some ⟨G,0,none⟩) L.length es.length]) (t:=T.tKs) (v:=.slice (some ⟨G,0,none⟩) (L.length + 1) es.length) (vs:=[.slice (some ⟨G,0,none⟩) (L.length + 1) es.length]) (by simp [qb_,gp,lt3,qa_,f4,pt]) (by simp [qb_,gp,lt3,qa_]) rfl (tf.vK.size _) hV5 (by simp) (by simp [Value.oneCell']) (wpList_nil ?_)
  have e1:qt_ #[.slice (some ⟨G,0,none⟩) L.length es.length] 0 [.slice (some ⟨G,0,none⟩) (L.length + 1) es.length]=#[.slice (some ⟨G,0,none⟩) (L.length + 1) es.length]:=by simp [qt_]
  rw [e1]
  have hK6:Keeps (fun k=>k=V) W5 (W5.setRow V #[.slice (some ⟨G,0,none⟩) (L.length + 1) es.length]):=Keeps.setRow _ _ _ _ rfl
  have hs5:=hK5.size
  have hgn:Gath T w0 q it V G clock es (L++[e]) (W5.setRow V #[.slice (some ⟨G,0,none⟩) (L.length + 1) es.length]):=by
   refine ⟨?_,?_,?_,?_,⟨cur.setIfInBounds L.length (z8_ e.key),?_,by simp [hcs],fun i x hx=>?_⟩,hsub,hnod,hg1.new⟩
   ·have h3:Keeps (fun k=>w0.heap.size<=k) w0 w1:=hg1.keeps.mono fun _ _ h=>h.elim
    have h4:Keeps (fun k=>w0.heap.size<=k) w1 (W5.setRow V #[.slice (some ⟨G,0,none⟩) (L.length + 1) es.length]):=((hKW.mono fun k _ hk=>by omega).trans (hK5.mono fun k _ hk=>by omega)).trans (hK6.mono fun k _ hk=>by omega)
    exact (h3.trans h4).mono fun k hk hX=>by omega
   ·rw [hK6.block q (by omega) (by omega),hK5.block q (by omega) (by omega)];exact hq
   ·have:it < w5.heap.size:=by rw [hWs,<- hw2h];exact hitl
    rw [hK6.block it (by omega) (fun h=>n5 h.symm),hK5.block it this (fun h=>n6 h.symm)];exact hWit
   ·rw [List.length_append];exact setRow_heap _ _ _ _ _ _ hV5
   ·rw [hK6.block G (by omega) (fun h=>n4 h.symm)];exact hG5
   ·by_cases hi:i < L.length
    ·rw [Array.getElem?_setIfInBounds,if_neg (by omega)]
     rw [List.getElem?_append_left hi] at hx
     exact hat i x hx
    ·rw [List.getElem?_append_right (by omega)] at hx
     have hi0:i - L.length=0:=by
      have:=(List.getElem?_eq_some_iff.1 hx).1
      simp at this
      omega
     rw [hi0] at hx
     obtain rfl:e=x:=by simpa using hx
     rw [show i=L.length by omega,Array.getElem?_setIfInBounds,if_pos rfl,if_pos (by omega)]
  show (∃ L,_)/\_
  refine ⟨⟨L++[e],hgn,fun i hi=>?_,?_,?_,?_,?_⟩,?_⟩
  ·iterate 4 rw [gpo (by omega)]
   exact f0 i hi
  ·iterate 4 rw [gpo (by omega)]
   exact f4
  ·iterate 4 rw [gpo (by omega)]
   exact f24
  ·simp only [qa_];exact fs
  ·simp only [qf_];exact fd
  ·show es.length - boxLen _ V < es.length - boxLen w1 V
   rw [hgle _ _ hgn,hgle _ _ hg1,List.length_append]
   simp only [List.length_cons,List.length_nil]
   omega
end
end Go.Proofs.YtlmanancakaapaaGreatDoor.Kx

namespace Go.Proofs.YtlmanancakaapaaGreatDoor.Kx
open Go Go.ChangeMaps
section
variable {P:Program}
theorem s_visit {T:TN} (tf:TF P T) {a:Act} {w:World} {b o n G L sz0 s1 fC:Nat} {cap:Array Value} {m:Value} {t:List (Nat × Bs)} {I:Nat->World->Prop} {K E:Act->World->Prop} (h0:a.get 0=pt b o) (h1:a.get 1=.func (.func fC) #[] cap) (h37:a.get 37=.slice (some ⟨G,0,none⟩) n n)
  (h38:a.get 38=.int .i64 (n:Int)) (h39:a.get 39=.int .i64 ((0:Nat):Int)) (hs:53<=a.tmps.size) (hn:n=t.length) (hn63:n < 4611686018427387904) (hG:∃ cur,w.heap[G]?=some (.cells cur T.tU32 (0,0))/\∀ (i:Nat) (p:Nat × Bs),t[i]?=some p->cur[i]?=some (z8_ p.1)) (hGs:sz0<=G/\G < s1)
  (hbs:b < sz0) (_hLs:L<=sz0) (_hs1:sz0<=s1) (hcell:w.cell? ⟨b,o,none⟩=some m) (ht:TgRp w (fun k=>L<=k) m t) (hI:I 0 w) (hCE:Ent P fC)
  (hC:∀ (j:Nat) (w1:World) (k:Nat) (l:Bs) (v:Value),t[j]?=some (k,l)->I j w1->SlRp w1 (fun x=>L<=x) v l->Calls P fC (#[.int .u32 (k:Int),v]++cap) w1 fun e w2=>e=.returned (.tuple #[])/\I (j + 1) w2/\Keeps (fun x=>(L<=x/\x < sz0/\x ≠ b) \/ s1<=x) w1 w2)
  (h:∀ a' w',a'.tmps.size=a.tmps.size->a'.defers=a.defers->I n w'->K a' w'):NWP P (.block 2 (eachLoop2 T)) (Rt K E) a w:=by
 obtain ⟨cur,hG,hat⟩:=hG
 refine .block (.loop (fun a1 w1=>∃ j:Nat,j<=n/\a1.get 0=pt b o/\a1.get 1=.func (.func fC) #[] cap/\a1.get 37=.slice (some ⟨G,0,none⟩) n n/\a1.get 38=.int .i64 (n:Int)/\a1.get 39=.int .i64 (j:Int)/\a1.tmps.size=a.tmps.size/\a1.defers=a.defers /\
   w1.heap[G]?=some (.cells cur T.tU32 (0,0))/\w1.cell? ⟨b,o,none⟩=some m/\TgRp w1 (fun k=>L<=k) m t/\I j w1) (fun a1 _=>((n:Int) - (match a1.get 39 with | .int _ q=>q | _=>0)).toNat) ⟨0,by omega,h0,h1,h37,h38,h39,rfl,rfl,hG,hcell,ht,hI⟩ ?_)
 rintro a1 w1 ⟨j,hj,e0,e1,e37,e38,e39,es,ed,eG,ec,et,eI⟩
 have lt:∀ d,d < 53->d < a1.tmps.size:=fun d hd=>by omega
 have htest:∀ (bb:Bool) (Q:Act->World->Prop),bb=decide ((j:Int) < (n:Int))->NWP P (rg [mk (some 40) (.binOp .lss T.tInt (tm 39) (tm 38) 0)]) (Rt (fun a' w'=>a'=a1.put (some 40) (.bool bb)/\w'=w1) Q) a1 w1:=by
  intro bb Q hbb
  exact .reg (q9_ (b:=bb) (p:=j) (q:=n) (k:=.i64) e39 e38 (.inr (.inr (.inl ⟨rfl,hbb⟩))) (wpList_nil ⟨rfl,rfl⟩))
 by_cases hlt:j < n
 ·refine .seq (htest true (fun _ _=>False) (by simp [hlt])) (fun a2 w2 hh=>?_) (fun e a w he hq=>by cases e <;> first | exact absurd rfl he | exact hq.elim)
  obtain ⟨rfl,rfl⟩:=hh
  refine .seq (R:=Rt (fun a' w'=>a'=a1.put (some 40) (.bool true)/\w'=w2) fun _ _=>False) (.condT (by rw [qb_,gpe (lt _ (by omega))]) (.skip ⟨rfl,rfl⟩)) (fun a3 w3 hh=>?_) (fun e a w he hq=>by cases e <;> first | exact absurd rfl he | exact hq.elim)
  obtain ⟨rfl,rfl⟩:=hh
  obtain ⟨p,hp⟩:∃ p,t[j]?=some p:=⟨t[j]'(by omega),List.getElem?_eq_getElem (by omega)⟩
  obtain ⟨k,l⟩:=p
  refine .seq (R:=Rt (fun a' w'=>a'.get 0=pt b o/\a'.get 1=.func (.func fC) #[] cap/\a'.get 37=.slice (some ⟨G,0,none⟩) n n/\a'.get 38=.int .i64 (n:Int)/\a'.get 39=.int .i64 (j:Int)/\a'.tmps.size=a.tmps.size/\a'.defers=a.defers /\
    w'.heap[G]?=some (.cells cur T.tU32 (0,0))/\w'.cell? ⟨b,o,none⟩=some m/\TgRp w' (fun k=>L<=k) m t/\I (j + 1) w') fun _ _=>False) (.block ?_) (fun a4 w4 hh=>?_) (fun e a w he hq=>by cases e <;> first | exact absurd rfl he | exact hq.elim)
  ·unfold eachCall
   refine .seq (R:=Rt (fun a' w'=>a'.get 0=pt b o/\a'.get 1=.func (.func fC) #[] cap/\a'.get 37=.slice (some ⟨G,0,none⟩) n n/\a'.get 38=.int .i64 (n:Int)/\a'.get 39=.int .i64 (j:Int)/\a'.get 7=z8_ k/\a'.tmps.size=a.tmps.size/\a'.defers=a.defers/\w'=w3) fun _ _=>False) (.reg ?_) (fun a5 w5 hh=>?_) (fun e a w he hq=>by cases e <;> first | exact absurd rfl he | exact hq.elim)
   ·refine j3_ (b:=G) (o:=0) (n:=n) (c:=n) (i:=j) (k:=.i64) (sz:=1) (by simp [qb_,gp,lt,e37]) (by simp [qb_,gp,lt,e39]) hlt tf.sl (tf.vU.size _) ?_
    refine q5_ (p:=⟨G,0 + j * 1,none⟩) (v:=z8_ k) (by simp [qb_,gp,lt,qa_]) (tf.vU.agg _) (by
     have:=hat j _ hp
     simp [World.cell?,eG,this]) (qg_ (wpList_nil ⟨?_,?_,?_,?_,?_,?_,?_,?_,rfl⟩))
    ·simp [gp,lt,qa_,e0]
    ·simp [gp,lt,qa_,e1]
    ·simp [gp,lt,qa_,e37]
    ·simp [gp,lt,qa_,e38]
    ·simp [gp,lt,qa_,e39]
    ·simp [qb_,gp,lt,qa_]
    ·simp only [qa_];exact es
    ·simp only [qf_];exact ed
   obtain ⟨f0,f1,f37,f38,f39,f7,fs,fd,rfl⟩:=hh
   have lt5:∀ d,d < 53->d < a5.tmps.size:=fun d hd=>by omega
   have hmem:∃ (q clock jj:Nat) (es:List jd_) (e:jd_),m=.map (some q)/\w5.heap[q]?=some (.map (es.map jd_.entry).toArray clock)/\(es.map jd_.key).Nodup/\es[jj]?=some e/\e.key=k/\SlRp w5 (fun x=>L<=x) e.val l:=by
    rcases et with ⟨_,rfl⟩ | ⟨q,rfl,_,_,⟨es,clock,f,hb1,hs1,_,hk1,hp1,_⟩,_⟩
    ·simp at hp
    ·have hm:(k,l) ∈ es.map fun e=>(e.key,f e):=hp1.mem_iff.2 (List.mem_of_getElem? hp)
     obtain ⟨e,he,hee⟩:=List.mem_map.1 hm
     simp only [Prod.mk.injEq] at hee
     obtain ⟨jj,hjj⟩:=List.getElem?_of_mem he
     exact ⟨q,clock,jj,es,e,rfl,hb1,hk1,hjj,hee.1,by rw [<- hee.2];exact (hs1 e he).2.2.mono fun _ _ h=>.inl h⟩
   obtain ⟨q,clock,jj,es',ev,rfl,hb1,hk1,hjj,rfl,hsl⟩:=hmem
   obtain ⟨kt,et',hM,hKt⟩:=tf.map
   refine .reg (qd_ (qd_ (qd_ ?_)))
   rw [qb_,f1,qb_,gpo (by omega),f7,qb_,gpo (by omega),gpo (by omega),f0]
   refine qp_ (p:=⟨b,o,none⟩) (by simp [qb_,gp,lt5,qa_,pt]) ?_
   refine ju_ (B:=b) (O:=o) (by simp [qb_,gp,lt5,qa_]) tf.fld ?_
   refine q5_ (p:=⟨b,o + 0,none⟩) (v:=.map (some q)) (by simp [qb_,gp,lt5,qa_]) (tf.fld.var.agg _) ec (qd_ ?_)
   refine qn_ (v:=ev.val) (w':=w5) ?_ ?_
   ·have hget:=run_mapGet (w:=w5) hM hKt hb1 hk1 hjj rfl
    have e48:∀ (A:Act),A=A->A.eval (tm 48)=.map (some q)->A.eval (tm 49)=z8_ ev.key->(execOp A.eval (mk (some 50) (.lookup T.tM (tm 48) (tm 49) false))).run P w5=.ok (.value ev.val) w5:=fun A _ h1 h2=>by
     simp [execOp,mk,h1,h2,hget]
    refine e48 _ rfl ?_ ?_
    ·simp [qb_,gp,lt5,qa_]
    ·simp [qb_,gp,lt5,qa_,f7]
   refine wl_callFn (f:=fC) (cap:=cap) (vs:=#[.int .u32 (ev.key:Int),ev.val]) (args:=[tm 44,tm 50]) hCE (by simp [qb_,gp,lt5,qa_]) (by simp [qb_,gp,lt5,qa_,z8_]) (hC j w5 ev.key l ev.val hp eI hsl) fun e w6 hR=>?_
   obtain ⟨he,hI6,hk6⟩:=hR
   refine ⟨_,he,wpList_nil ⟨?_,?_,?_,?_,?_,?_,?_,?_,?_,?_,hI6⟩⟩
   ·simp [gp,lt5,qa_,f0]
   ·simp [gp,lt5,qa_,f1]
   ·simp [gp,lt5,qa_,f37]
   ·simp [gp,lt5,qa_,f38]
   ·simp [gp,lt5,qa_,f39]
   ·simp only [qa_];exact fs
   ·simp only [qf_];exact fd
   ·have hGl:G < w5.heap.size:=(Array.getElem?_eq_some_iff.1 eG).1
    rw [hk6.block G hGl (by omega)];exact eG
   ·exact hk6.cell (fun hh=>by rcases hh with hh | hh;exact hh.2.2 rfl;omega) ec
   ·exact et.keep (hk6.mono fun k _ hk=>by omega)
  obtain ⟨g0,g1,g37,g38,g39,gs,gd,gG,gc,gt,gI⟩:=hh
  have lt4:∀ d,d < 53->d < a4.tmps.size:=fun d hd=>by omega
  refine .reg ?_
  refine zk_ (k:=.i64) (m:=(j:Int)) (n:=1) (v:=.int .i64 ((j + 1:Nat):Int)) (by rw [qb_];exact g39) rfl (by simp) (by
   have:IntKind.i64.wrap ((j:Int) + 1)=((j + 1:Nat):Int):=by simp [IntKind.wrap,IntKind.bits,IntKind.signed];omega
   simp [binOp,Op.intArith,this]) (qd_ (wpList_nil ?_))
  show (∃ j',_)/\_
  refine ⟨⟨j + 1,by omega,?_,?_,?_,?_,?_,?_,?_,gG,gc,gt,gI⟩,?_⟩
  ·simp [gp,lt4,qa_,g0]
  ·simp [gp,lt4,qa_,g1]
  ·simp [gp,lt4,qa_,g37]
  ·simp [gp,lt4,qa_,g38]
  ·simp [qb_,gp,lt4,qa_]
  ·simp only [qa_];exact gs
  ·simp only [qf_];exact gd
  ·show ((n:Int) - (match Act.get _ 39 with | .int _ q=>q | _=>0)).toNat < ((n:Int) - (match a1.get 39 with | .int _ q=>q | _=>0)).toNat
   rw [e39,gpe (by simp only [qa_];exact lt4 _ (by omega)),qb_,gpe (lt4 _ (by omega))]
   simp only
   omega
 ·have hjn:j=n:=by omega
  refine .seq (htest false (fun _ _=>False) (by simp;omega)) (fun a2 w2 hh=>?_) (fun e a w he hq=>by cases e <;> first | exact absurd rfl he | exact hq.elim)
  obtain ⟨rfl,rfl⟩:=hh
  refine .seq (R:=Exit.then (fun _ _=>False) (Exit.inBlock 2 (Rt K E))) (.condF (by rw [qb_,gpe (lt _ (by omega))]) (.exit ?_)) (fun _ _ hh=>hh.elim) (fun e a w he hq=>by rw [zc_ he] at hq ⊢;exact hq)
  show K _ _
  exact h _ _ (by simp only [qa_];exact es) (by simp only [qf_];exact ed) (hjn ▸ eI)
end
end Go.Proofs.YtlmanancakaapaaGreatDoor.Kx

namespace Go.Proofs.YtlmanancakaapaaGreatDoor.Kx
open Go Go.ChangeMaps
section
variable {P:Program}
theorem each_calls (hm:P.follows .mixedOrders=true) {T:TN} (tf:TF P T) (hso:SortOk P T) {f nt:Nat} (hfn:FnIs P f nt [] (cEach T)) (hnt:53<=nt) {w:World} {b o L fC:Nat} {m:Value} {t:List (Nat × Bs)} {cap:Array Value} {I:Nat->Nat->World->Prop} (hc:w.cell? ⟨b,o,none⟩=some m) (hb:b < w.heap.size) (hL:L<=w.heap.size)
  (ht:TgRp w (fun k=>L<=k) m t) (hn:t.length<=35200000000000) (hCE:Ent P fC) (hI0:∀ w1,Keeps (fun _=>False) w w1->I w1.heap.size 0 w1)
  (hC:∀ (s1 j:Nat) (w1:World) (k:Nat) (l:Bs) (v:Value),w.heap.size<=s1->t[j]?=some (k,l)->I s1 j w1->SlRp w1 (fun x=>L<=x) v l->Calls P fC (#[.int .u32 (k:Int),v]++cap) w1 fun e w2=>e=.returned (.tuple #[])/\I s1 (j + 1) w2/\Keeps (fun x=>(L<=x/\x < w.heap.size/\x ≠ b) \/ s1<=x) w1 w2) :
  Calls P f #[pt b o,.func (.func fC) #[] cap] w fun e w'=>e=.returned (.tuple #[])/\∃ s1,w.heap.size<=s1/\I s1 t.length w':=by
 refine callsA hm hfn (by simp) [pt b o,.func (.func fC) #[] cap] (by simp;omega) fun a harg hs hd=>?_
 have g0:=harg 0 _ rfl
 have g1:=harg 1 _ rfl
 obtain ⟨kt,et,hM,hKt⟩:=tf.map
 have hbl:b < w.heap.size:=hb
 unfold cEach
 have head:∀ (bb:Bool) (Y:Act->World->Prop),bb=decide (t.length=0)->(∀ a2,a2.get 13=.bool bb->a2.get 0=pt b o->a2.get 1=.func (.func fC) #[] cap->a2.tmps.size=nt->a2.defers=[]->Y a2 w) ->
   NWP P (rg (ldMap T 8++[bi (some 12) .len [tm 11] [T.tM] T.tInt,mk (some 13) (.binOp .eql T.tInt (tm 12) (ki .i64 0) 0)])) (Rt Y fun _ _=>False) a w:=by
  intro bb Y hbb hY
  refine .reg (wl_ldMap tf g0 hc (by omega) (by omega) fun a1 hlow h11 hs1 hd1=>?_)
  refine wl_lenMap hM (by rw [qb_];exact h11) ht ?_
  refine q9_ (b:=bb) (p:=(t.length:Int)) (q:=0) (k:=.i64) (by rw [qb_,gpe (by omega)]) rfl (.inr (.inr (.inr (.inr (.inl ⟨rfl,by rw [hbb];exact decide_eq_decide.2 (by omega)⟩))))) (wpList_nil (hY _ ?_ ?_ ?_ ?_ ?_))
  ·rw [gpe (by simp only [qa_];omega)]
  ·rw [gpo (by omega),gpo (by omega),hlow 0 (by omega)];exact g0
  ·rw [gpo (by omega),gpo (by omega),hlow 1 (by omega)];exact g1
  ·simp only [qa_];omega
  ·simp only [qf_];exact hd1.trans hd
 by_cases h0:t.length=0
 ·refine .seq (R:=Rt (fun _ _=>False) (fun a' w'=>a'.defers=[]/\(Ending.returned (zl_ [] a')=.returned (.tuple #[])/\∃ s1,w.heap.size<=s1/\I s1 t.length w'))) (.seq (head true _ (by simp [h0]) fun a2 h13 _ _ _ hd2=>?_) (fun a1 w1 hh=>hh) (fun e a w he hq=>by cases e <;> first | exact absurd rfl he | exact hq.elim)) (fun _ _ hh=>hh.elim) (fun e a w he hq=>by cases e <;> first | exact absurd rfl he | exact hq)
  exact .condT h13 (.ret ⟨hd2,rfl,w.heap.size,Nat.le_refl _,h0 ▸ hI0 w (Keeps.refl _ _)⟩)
 refine .seq (R:=Rt (fun a2 w2=>a2.get 0=pt b o/\a2.get 1=.func (.func fC) #[] cap/\a2.tmps.size=nt/\a2.defers=[]/\w2=w) fun _ _=>False) (.seq (head false _ (by simp [h0]) fun a2 h13 e0 e1 hs2 hd2=>?_) (fun a1 w1 hh=>hh) (fun e a w he hq=>by cases e <;> first | exact absurd rfl he | exact hq.elim)) (fun a2 w2 hh=>?_) (fun e a w he hq=>by cases e <;> first | exact absurd rfl he | exact hq.elim)
 ·exact .condF h13 (.skip ⟨e0,e1,hs2,hd2,rfl⟩)
 obtain ⟨e0,e1,hs2,hd2,rfl⟩:=hh
 obtain ⟨q,rfl,hqL,hql,es,clock,ff,hq,hes,hborn,hkeys,hperm,hris⟩:∃ r,m=.map (some r)/\¬ L<=r/\r < w2.heap.size/\MapIs w2 (fun k=>L<=k) r t:=by
  rcases ht with ⟨_,rfl⟩ | h
  ·exact absurd rfl h0
  ·obtain ⟨r,e1,e2,e3,e4,_⟩:=h
   exact ⟨r,e1,e2,e3,e4⟩
 have hlen:es.length=t.length:=by simpa using hperm.length_eq
 have lt2:∀ d,d < 53->d < a2.tmps.size:=fun d hd=>by omega
 obtain ⟨i,z,hi,hz,hsz,hby⟩:=tf.info
 refine .seq (R:=Rt (fun a3 w3=>a3.get 0=pt b o/\a3.get 1=.func (.func fC) #[] cap/\a3.get 4=pt (w2.heap.size + 1) 0/\a3.tmps.size=nt/\a3.defers=[]/\Keeps (fun _=>False) w2 w3/\w3.heap.size=w2.heap.size + 2 /\
   w3.heap[w2.heap.size + 1]?=some (.cells #[.slice (some ⟨w2.heap.size,0,none⟩) 0 es.length] T.tKs (0,0))/\∃ cur,w3.heap[w2.heap.size]?=some (.cells cur T.tU32 (0,0))/\cur.size=es.length) fun _ _=>False) (.reg ?_) (fun a3 w3 hh=>?_) (fun e a w he hq=>by cases e <;> first | exact absurd rfl he | exact hq.elim)
 ·refine wl_ldMap tf e0 hc (by omega) (by omega) fun a3 hlow h17 hs3 hd3=>?_
  refine wl_lenMap hM (by rw [qb_];exact h17) ht ?_
  have hmk:=run_makeSlice (P:=P) (w:=w2) T.tKs T.tU32 i z tf.sl hi hz .i64 .i64 0 (t.length:Int) (by omega) (by omega)
  have hmk2:(Instr.makeSlice T.tKs (.int .i64 0) (.int .i64 (t.length:Int))).run P w2=.ok (.slice (some ⟨w2.heap.size,0,none⟩) 0 t.length) (w2.alloc (.cells (madeCells z.cells (t.length * i.size)) T.tU32)):=by
   have:=run_make (P:=P) w2 T.tKs T.tU32 i z tf.sl hi hz .i64 .i64 0 (t.length:Int) (by omega) (by omega) (by rw [hby];omega) (by omega)
   simpa using this
  clear hmk
  refine qn_ (v:=.slice (some ⟨w2.heap.size,0,none⟩) 0 t.length) (w':=w2.alloc (.cells (madeCells z.cells (t.length * i.size)) T.tU32)) (by
   have e18:(a3.put (some 18) (.int .i64 (t.length:Int))).eval (tm 18)=.int .i64 (t.length:Int):=by rw [qb_,gpe (by omega)]
   have e0':(a3.put (some 18) (.int .i64 (t.length:Int))).eval (ki .i64 0)=.int .i64 0:=rfl
   simp [execOp,mk,e18,e0',hmk2]) ?_
  refine zp_ (z:=.slice none 0 0) (tf.zK _) ?_
  have hsz1:(w2.alloc (.cells (madeCells z.cells (t.length * i.size)) T.tU32)).heap.size=w2.heap.size + 1:=by simp
  generalize hw3:w2.alloc (.cells (madeCells z.cells (t.length * i.size)) T.tU32)=w3 at hsz1 ⊢
  have hG3:w3.heap[w2.heap.size]?=some (.cells (madeCells z.cells (t.length * i.size)) T.tU32 (0,0)):=by rw [<- hw3];exact qs_ _ _
  have hk3:Keeps (fun _=>False) w2 w3:=by rw [<- hw3];exact Keeps.alloc _ _ _
  have hV4:=qs_ w3 (.cells (Value.cells (.slice none 0 0)) T.tKs (0,0))
  rw [hsz1] at hV4 ⊢
  refine q8_ (g:=w2.heap.size + 1) (o:=0) (cur:=Value.cells (.slice none 0 0)) (t:=T.tKs) (v:=.slice (some ⟨w2.heap.size,0,none⟩) 0 t.length) (vs:=[.slice (some ⟨w2.heap.size,0,none⟩) 0 t.length]) (by rw [qb_,gpe (by simp only [qa_];omega)]) (by rw [qb_,gpo (by omega),gpe (by simp only [qa_];omega)]) rfl (tf.vK.size _) hV4 (by simp [Value.cells]) (by simp [Value.oneCell']) (wpList_nil ⟨?_,?_,?_,?_,?_,?_,?_,?_,madeCells z.cells (t.length * i.size),?_,?_⟩)
  ·iterate 3 rw [gpo (by omega)]
   rw [hlow 0 (by omega)];exact e0
  ·iterate 3 rw [gpo (by omega)]
   rw [hlow 1 (by omega)];exact e1
  ·rw [gpe (by simp only [qa_];omega)];rfl
  ·simp only [qa_];omega
  ·simp only [qf_];exact hd3.trans hd2
  ·have h4:Keeps (fun k=>w2.heap.size<=k) w2 ((w3.alloc (.cells (Value.cells (.slice none 0 0)) T.tKs (0,0))).setRow (w2.heap.size + 1) (qt_ (Value.cells (.slice none 0 0)) 0 [.slice (some ⟨w2.heap.size,0,none⟩) 0 t.length])):=
    ((hk3.mono fun _ _ h=>h.elim).trans (Keeps.alloc _ _ _)).trans (Keeps.setRow _ _ _ _ (by omega))
   exact h4.mono fun k hk hX=>by omega
  ·simp [hsz1]
  ·rw [setRow_heap _ _ _ _ _ _ hV4,hlen]
   simp [qt_,Value.cells]
  ·rw [setRow_other _ _ _ _ (by omega),q4_ (by omega)];exact hG3
  ·rw [size_madeCells,hsz,hlen];omega
 obtain ⟨k0,k1,k4,hs3,hd3,hk3,hz3,hV3,cur,hG3,hcs⟩:=hh
 refine .seq (R:=Rt (fun a4 w4=>∃ Ls,a4.get 0=pt b o/\a4.get 1=.func (.func fC) #[] cap/\a4.get 4=pt (w2.heap.size + 1) 0/\a4.tmps.size=nt/\a4.defers=[]/\Gath T w2 q (w2.heap.size + 2) (w2.heap.size + 1) w2.heap.size clock es Ls w4/\(∀ e ∈ es,e.born ∈ Ls.map jd_.born)) fun _ _=>False) (.seq (R:=Rt (fun a4 w4=>a4.get 0=pt b o/\a4.get 1=.func (.func fC) #[] cap/\a4.get 4=pt (w2.heap.size + 1) 0/\a4.get 24=pt (w2.heap.size + 2) 0/\a4.tmps.size=nt/\a4.defers=[]/\Gath T w2 q (w2.heap.size + 2) (w2.heap.size + 1) w2.heap.size clock es [] w4) fun _ _=>False) (.reg ?_) (fun a4 w4 hh=>?_) (fun e a w he hq=>by cases e <;> first | exact absurd rfl he | exact hq.elim)) (fun a4 w4 hh=>?_) (fun e a w he hq=>by cases e <;> first | exact absurd rfl he | exact hq.elim)
 ·refine wl_ldMap tf k0 (hk3.cell id hc) (by omega) (by omega) fun a4 hlow h23 hs4 hd4=>?_
  have hq3:w3.heap[q]?=some (.map (es.map jd_.entry).toArray clock):=by rw [hk3.block q hql id];exact hq
  have hr:=run_range_map w3 T.tM kt et q (es.map jd_.entry).toArray clock hM hq3
  refine qn_ (v:=pt w3.heap.size 0) (w':=w3.alloc (.mapIter (some q) clock #[] clock)) (by
   have e23:a4.eval (tm 23)=.map (some q):=h23
   simp [execOp,mk,e23,hr,pt]) (wpList_nil ⟨?_,?_,?_,?_,?_,?_,?_⟩)
  ·rw [gpo (by omega),hlow 0 (by omega)];exact k0
  ·rw [gpo (by omega),hlow 1 (by omega)];exact k1
  ·rw [gpo (by omega),hlow 4 (by omega)];exact k4
  ·rw [gpe (by omega),hz3]
  ·simp only [qa_];omega
  ·simp only [qf_];exact hd4.trans hd3
  ·refine ⟨hk3.trans (Keeps.alloc _ _ _),?_,?_,?_,⟨cur,?_,hcs,fun i e h=>by simp at h⟩,fun _ h=>by simp at h,by simp,by omega⟩
   ·rw [q4_ (by omega)];exact hq3
   ·have:=qs_ w3 (.mapIter (some q) clock #[] clock)
    rw [hz3] at this
    simpa using this
   ·rw [q4_ (by omega)];exact hV3
   ·rw [q4_ (by omega)];exact hG3
 ·obtain ⟨f0,f1,f4,f24,fs,fd,hg⟩:=hh
  refine s_gather tf f24 f4 (by omega) hg (fun e he=>(hes e he).2.1) hborn fun a' w' Ls hlow h4 hs' hd' hg' hall=>⟨Ls,?_,?_,h4,by omega,hd'.trans fd,hg',hall⟩
  ·rw [hlow 0 (by omega)];exact f0
  ·rw [hlow 1 (by omega)];exact f1
 obtain ⟨Ls,f0,f1,f4,fs,fd,hg,hall⟩:=hh
 have hpk:=perm_of_sub Ls es hg.nod hborn hg.sub hall
 have hLl:Ls.length=es.length:=by simpa using hpk.length_eq
 have lt4:∀ d,d < 53->d < a4.tmps.size:=fun d hd=>by omega
 obtain ⟨cur4,hG4,hcs4,hat4⟩:=hg.row
 have hbox:=hg.box
 rw [hLl] at hbox
 refine .seq (R:=Rt (fun a5 w5=>a5.get 0=pt b o/\a5.get 1=.func (.func fC) #[] cap/\a5.get 4=pt (w2.heap.size + 1) 0/\a5.tmps.size=nt/\a5.defers=[]/\Keeps (fun k=>k=w2.heap.size) w4 w5 /\
   ∃ (cur':Array Value) (ks':List Nat),w5.heap[w2.heap.size]?=some (.cells cur' T.tU32 (0,0))/\ks'.Perm (Ls.map jd_.key)/\ks'.Pairwise (·<=·)/\∀ (i:Nat) (x:Nat),ks'[i]?=some x->cur'[i]?=some (z8_ x)) fun _ _=>False) (.reg ?_) (fun a5 w5 hh=>?_) (fun e a w he hq=>by cases e <;> first | exact absurd rfl he | exact hq.elim)
 ·refine q5_ (p:=⟨w2.heap.size + 1,0,none⟩) (v:=.slice (some ⟨w2.heap.size,0,none⟩) es.length es.length) (by rw [qb_];exact f4) (tf.vK.agg _) (by simp [World.cell?,hbox]) ?_
  refine qn_ (v:=.iface T.tKs (.slice (some ⟨w2.heap.size,0,none⟩) es.length es.length)) (w':=w4) (by
   have e33:(a4.put (some 33) (.slice (some ⟨w2.heap.size,0,none⟩) es.length es.length)).eval (tm 33)=.slice (some ⟨w2.heap.size,0,none⟩) es.length es.length:=by rw [qb_,gpe (lt4 _ (by omega))]
   simp [execOp,mk,e33,Instr.makeInterface,run_underlying tf.sl]) ?_
  refine qn_ (v:=.func (.func T.fLess) #[] #[pt (w2.heap.size + 1) 0]) (w':=w4) (by
   have e4':∀ A:Act,A.eval (tm 4)=pt (w2.heap.size + 1) 0->(execOp A.eval (mk (some 35) (.makeFunc (.func T.fLess) #[] #[tm 4]))).run P w4=.ok (.value (.func (.func T.fLess) #[] #[pt (w2.heap.size + 1) 0])) w4:=fun A h=>by
    simp [execOp,mk,Instr.makeFunc,h]
   exact e4' _ (by simp [qb_,gp,lt4,qa_,f4])) ?_
  refine qv_ (vs:=#[.iface T.tKs (.slice (some ⟨w2.heap.size,0,none⟩) es.length es.length),.func (.func T.fLess) #[] #[pt (w2.heap.size + 1) 0]]) hso.1 (by simp [qb_,gp,lt4,qa_])
   (hso.2 w4 (w2.heap.size + 1) w2.heap.size es.length (Ls.map jd_.key) cur4 (by simpa using hLl) (by omega) (fun x hx=>by
    obtain ⟨e,he,rfl⟩:=List.mem_map.1 hx
    exact (hes e (hg.sub e he)).1) hbox hG4 hcs4 (by omega) fun i x hx=>by
     rw [List.getElem?_map,Option.map_eq_some_iff] at hx
     obtain ⟨e,he,rfl⟩:=hx
     exact hat4 i e he) fun e w5 hR=>⟨_,hR.1,wpList_nil ⟨?_,?_,?_,?_,?_,hR.2.1,hR.2.2⟩⟩
  ·simp [gp,lt4,qa_,f0]
  ·simp [gp,lt4,qa_,f1]
  ·simp [gp,lt4,qa_,f4]
  ·simp only [qa_];exact fs
  ·simp only [qf_];exact fd
 obtain ⟨p0,p1,p4,ps,pd,hk5,cur5,ks,hG5,hp5,hso5,hat5⟩:=hh
 have hks:ks=t.map (·.1):=by
  refine sorted_same ?_ hso5 (rising_le hris)
  have h1:(es.map jd_.key).Perm (t.map (·.1)):=by
   have:=hperm.map (·.1)
   simpa [Function.comp_def] using this
  exact hp5.trans (hpk.trans h1)
 have lt5:∀ d,d < 53->d < a5.tmps.size:=fun d hd=>by omega
 have hk25:Keeps (fun _=>False) w2 w5:=by
  have:Keeps (fun k=>w2.heap.size<=k) w2 w5:=(hg.keeps.mono fun _ _ h=>h.elim).trans (hk5.mono fun k _ hk=>by omega)
  exact this.mono fun k hk hX=>by omega
 have hV4l:w2.heap.size + 1 < w4.heap.size:=(Array.getElem?_eq_some_iff.1 hbox).1
 have hs45:=hk5.size
 refine .seq (R:=Rt (fun a6 w6=>a6=((a5.put (some 37) (.slice (some ⟨w2.heap.size,0,none⟩) es.length es.length)).put (some 38) (.int .i64 (es.length:Int))).put (some 39) (.int .i64 ((0:Nat):Int))/\w6=w5) fun _ _=>False) (.reg ?_) (fun a6 w6 hh=>?_) (fun e a w he hq=>by cases e <;> first | exact absurd rfl he | exact hq.elim)
 ·refine q5_ (p:=⟨w2.heap.size + 1,0,none⟩) (v:=.slice (some ⟨w2.heap.size,0,none⟩) es.length es.length) (by rw [qb_];exact p4) (tf.vK.agg _) (by
   have:w5.heap[w2.heap.size + 1]?=some (.cells #[.slice (some ⟨w2.heap.size,0,none⟩) es.length es.length] T.tKs (0,0)):=by rw [hk5.block _ hV4l (by omega)];exact hbox
   simp [World.cell?,this]) ?_
  exact wl_len (base:=some ⟨w2.heap.size,0,none⟩) (n:=es.length) (c:=es.length) (by rw [qb_,gpe (lt5 _ (by omega))]) tf.sl (qd_ (wpList_nil ⟨rfl,rfl⟩))
 obtain ⟨rfl,rfl⟩:=hh
 refine s_visit (b:=b) (o:=o) (n:=es.length) (G:=w2.heap.size) (L:=L) (sz0:=w2.heap.size) (s1:=w6.heap.size) (fC:=fC) (cap:=cap) (m:=.map (some q)) (t:=t) (I:=I w6.heap.size) tf ?_ ?_ ?_ ?_ ?_ ?_ hlen (by omega) ⟨cur5,hG5,fun i p hp=>?_⟩ (by omega) hb hL (by omega) (hk25.cell id hc) (ht.keep (hk25.mono fun _ _ h=>h.elim)) (hI0 w6 hk25) hCE (fun j w1 k l v h1 h2 h3=>hC w6.heap.size j w1 k l v (by omega) h1 h2 h3) fun a' w' h1 h2 h3=>⟨?_,rfl,w6.heap.size,by omega,hlen ▸ h3⟩
 ·simp [gp,lt5,qa_,p0]
 ·simp [gp,lt5,qa_,p1]
 ·simp [gp,lt5,qa_]
 ·simp [gp,lt5,qa_]
 ·simp [gp,lt5,qa_]
 ·simp only [qa_];omega
 ·refine hat5 i p.1 ?_
  rw [hks,List.getElem?_map,hp]
  rfl
 ·rw [h2]
  simp only [qf_]
  exact pd
end
end Go.Proofs.YtlmanancakaapaaGreatDoor.Kx

namespace Go.Proofs.YtlmanancakaapaaGreatDoor.Kx
open Go Go.ChangeMaps
section
variable {P:Program}
structure Bx (b tSl te L D:Nat) (d0:Value) (w0:World) (s1:Nat) (bs:Bs) (w:World) (d':Value):Prop where
 box:w.heap[D]?=some (.cells #[d'] tSl (0,0))
 gr:Gr L te d0 w0 d' bs w
 own:∀ k,d'.ownBlock=some k->k < D \/ s1<=k
 s1:D < s1/\s1<=w.heap.size
 D0:w0.heap.size<=D/\L<=D
 nb:b < w0.heap.size/\d0.ownBlock ≠ some b
theorem Bx.dst {b tSl te L D s1:Nat} {d0 d':Value} {w0 w:World} {bs:Bs} (h:Bx b tSl te L D d0 w0 s1 bs w d'):jh_ w L te d' bs:=h.gr.dst
theorem Bx.step {b tSl te L D s1:Nat} {d0 d' d'':Value} {w0 w w1:World} {bs bs':Bs} (h:Bx b tSl te L D d0 w0 s1 bs w d') (hg:Gr L te d' w d'' bs' w1) :
  w1.heap[D]?=some (.cells #[d'] tSl (0,0))/\Bx b tSl te L D d0 w0 s1 bs' (w1.setRow D #[d'']) d''/\Keeps (fun x=>(L<=x/\x < D + 1/\x ≠ b) \/ s1<=x) w (w1.setRow D #[d'']):=by
 have hDl:D < w.heap.size:=by have:=h.s1;omega
 have hno:d'.ownBlock ≠ some D:=fun hh=>by have:=h.own D hh;have:=h.s1;omega
 have hsz:=hg.keeps.size
 have hb1:w1.heap[D]?=some (.cells #[d'] tSl (0,0)):=by rw [hg.keeps.block D hDl hno];exact h.box
 have hown:∀ k,d''.ownBlock=some k->k < D \/ s1<=k:=fun k hk=>by
  rcases hg.own k hk with h1 | h1
  ·exact h.own k h1
  ·have:=h.s1;exact .inr (by omega)
 have hno2:d''.ownBlock ≠ some D:=fun hh=>by have:=hown D hh;have:=h.s1;omega
 have hks:Keeps (fun k=>k=D) w1 (w1.setRow D #[d'']):=Keeps.setRow _ _ _ _ rfl
 refine ⟨hb1,⟨setRow_heap _ _ _ _ _ _ hb1,(h.gr.trans hg).post hks fun k hk=>?_,hown,⟨h.s1.1,by have:=hks.size;have:=h.s1;omega⟩,h.D0,h.nb⟩,?_⟩
 ·subst hk;exact ⟨h.D0.1,hno2⟩
 ·refine (hg.keeps.mono fun k _ hk=>?_).trans (hks.mono fun k _ hk=>?_)
  ·have h1:=h.dst.own hk
   rcases h.own k hk with h2 | h2
   ·refine .inl ⟨h1.1,by omega,fun hkb=>?_⟩
    subst hkb
    rcases h.gr.own k hk with h3 | h3
    ·exact h.nb.2 h3
    ·have:=h.nb.1;omega
   ·exact .inr h2
  ·subst hk;exact .inl ⟨h.D0.2,by omega,by have:=h.nb;have:=h.D0;omega⟩
theorem Bx.lim {b tSl te L D s1:Nat} {d0 d':Value} {w0 w:World} {bs:Bs} (h:Bx b tSl te L D d0 w0 s1 bs w d'):L<=w.heap.size:=by have:=h.s1;have:=h.D0;omega
theorem tone_calls (hm:P.follows .mixedOrders=true) {T:TN} {b te L D s1:Nat} (ot:OctT P T.tSl te) (hV:jp_ P T.tSl false 1) (hInt:P.underlying T.tInt=some (.int .i64)) (hU32:P.underlying T.tU32=some (.int .u32)) (hUE:Ent P T.fUv) (hUc:∀ (x:Nat) (w:World),x < 4294967296->ApC P te T.fUv (.int .u32 x) (uvar x) w)
  {f nt:Nat} (hfn:FnIs P f nt [] (cTOne T)) (hnt:16<=nt) {w0 w:World} {d0 d' v:Value} {bs l:Bs} {k:Nat} (hb:Bx b T.tSl te L D d0 w0 s1 bs w d') (hk:k < 4294967296) (hv:SlRp w (fun x=>L<=x) v l) (hlim:bs.length + (wTag (k,l)).length<=LIM) :
  Calls P f #[.int .u32 (k:Int),v,pt D 0] w fun e w'=>e=.returned (.tuple #[])/\(∃ d'',Bx b T.tSl te L D d0 w0 s1 (bs++wTag (k,l)) w' d'')/\Keeps (fun x=>(L<=x/\x < D + 1/\x ≠ b) \/ s1<=x) w w':=by
 refine callsA hm hfn (by simp) [.int .u32 (k:Int),v,pt D 0] (by simp;omega) fun a harg hs hd=>?_
 have g0:=harg 0 _ rfl
 have g1:=harg 1 _ rfl
 have g2:=harg 2 _ rfl
 have hYL:∀ {wa wb:World},Keeps (fun x=>(L<=x/\x < D + 1/\x ≠ b) \/ s1<=x) wa wb->Keeps (fun x=>L<=x) wa wb:=fun hh=>hh.mono fun x _ hx=>by have:=hb.D0;have:=hb.s1;omega
 simp only [wTag,List.length_append] at hlim
 have e1:∀ (x y:Value),qt_ #[x] 0 [y]=#[y]:=fun x y=>by simp [qt_]
 have cell:∀ {ww:World} {dd:Value},ww.heap[D]?=some (.cells #[dd] T.tSl (0,0))->ww.cell? ⟨D,0,none⟩=some dd:=fun hh=>by simp [World.cell?,hh]
 have one:∀ {dd:Value} {bb:Bs} {ww:World},jh_ ww L te dd bb->dd.oneCell'=true/\dd.cells=#[dd]:=fun hh=>by
  rcases hh with ⟨rfl,_⟩ | ⟨_,_,_,rfl,_⟩ <;> exact ⟨rfl,rfl⟩
 unfold cTOne
 refine .seq (R:=Rt (fun a1 w1=>a1.get 0=.int .u32 (k:Int)/\a1.get 1=v/\a1.get 2=pt D 0/\a1.tmps.size=nt/\a1.defers=[]/\(∃ d1,Bx b T.tSl te L D d0 w0 s1 (bs++uvar k) w1 d1)/\Keeps (fun x=>(L<=x/\x < D + 1/\x ≠ b) \/ s1<=x) w w1) fun _ _=>False) (.reg ?_) (fun a1 w1 hh=>?_) (fun e a w he hq=>by cases e <;> first | exact absurd rfl he | exact hq.elim)
 ·refine q5_ (p:=⟨D,0,none⟩) (v:=d') (by rw [qb_];exact g2) (hV.agg _) (cell hb.box) (qd_ ?_)
  rw [qb_,gpo (by omega),g0]
  refine qv_ (vs:=#[d',.int .u32 (k:Int)]) hUE ?_ (hUc k w hk L d' bs hb.dst hb.lim (by omega)) fun e w1 hR=>?_
  ·simp only [List.map_cons,List.map_nil,qb_]
   rw [gpo (by omega),gpe (by omega),gpe (by simp only [qa_];omega)]
  obtain ⟨d1,he,hg⟩:=hR
  obtain ⟨hb1,hbx,hkk⟩:=hb.step hg
  refine ⟨d1,he,q8_ (g:=D) (o:=0) (cur:=#[d']) (t:=T.tSl) (v:=d1) (vs:=[d1]) ?_ ?_ (by rw [(one hg.dst).2]) (hV.size _) hb1 (by simp) (by simpa using (one hg.dst).1) (wpList_nil ⟨?_,?_,?_,?_,?_,⟨d1,by rw [e1];exact hbx⟩,by rw [e1];exact hkk⟩)⟩
  ·rw [qb_,gpo (by omega),gpo (by omega),gpo (by omega)];exact g2
  ·rw [qb_,gpe (by simp only [qa_];omega)]
  ·rw [gpo (by omega),gpo (by omega),gpo (by omega)];exact g0
  ·rw [gpo (by omega),gpo (by omega),gpo (by omega)];exact g1
  ·rw [gpo (by omega),gpo (by omega),gpo (by omega)];exact g2
  ·simp only [qa_];exact hs
  ·simp only [qf_];exact hd
 obtain ⟨f0,f1,f2,fs,fd,⟨d1,hb1⟩,hk1⟩:=hh
 have hv1:=hv.keep (hYL hk1)
 obtain ⟨vb,vc,hvf,_⟩:=hv1.form
 refine .seq (R:=Rt (fun a2 w2=>a2.get 1=v/\a2.get 2=pt D 0/\a2.tmps.size=nt/\a2.defers=[]/\(∃ d2,Bx b T.tSl te L D d0 w0 s1 (bs++uvar k++uvar (w32 l.length)) w2 d2)/\Keeps (fun x=>(L<=x/\x < D + 1/\x ≠ b) \/ s1<=x) w w2) fun _ _=>False) (.reg ?_) (fun a2 w2 hh=>?_) (fun e a w he hq=>by cases e <;> first | exact absurd rfl he | exact hq.elim)
 ·refine q5_ (p:=⟨D,0,none⟩) (v:=d1) (by rw [qb_];exact f2) (hV.agg _) (cell hb1.box) (qd_ ?_)
  rw [qb_,gpo (by omega),f1]
  refine wl_len (base:=vb) (n:=l.length) (c:=vc) (by rw [qb_,gpe (by simp only [qa_];omega)];exact hvf) ot.und ?_
  refine qw_ (k:=.i64) (k':=.u32) (m:=(l.length:Int)) (by rw [qb_,gpe (by simp only [qa_];omega)]) hInt hU32 ?_
  have ew:IntKind.u32.wrap (l.length:Int)=((w32 l.length:Nat):Int):=by simp [IntKind.wrap,IntKind.bits,IntKind.signed,w32]
  rw [ew]
  have hw32:w32 l.length < 4294967296:=by simp only [w32];omega
  refine qv_ (vs:=#[d1,.int .u32 ((w32 l.length:Nat):Int)]) hUE ?_ (hUc (w32 l.length) w1 hw32 L d1 _ hb1.dst hb1.lim (by rw [List.length_append];omega)) fun e w2 hR=>?_
  ·simp only [List.map_cons,List.map_nil,qb_]
   rw [gpo (by omega),gpo (by omega),gpo (by omega),gpe (by omega),gpe (by simp only [qa_];omega)]
  obtain ⟨d2,he,hg⟩:=hR
  obtain ⟨hb2,hbx,hkk⟩:=hb1.step hg
  refine ⟨d2,he,q8_ (g:=D) (o:=0) (cur:=#[d1]) (t:=T.tSl) (v:=d2) (vs:=[d2]) ?_ ?_ (by rw [(one hg.dst).2]) (hV.size _) hb2 (by simp) (by simpa using (one hg.dst).1) (wpList_nil ⟨?_,?_,?_,?_,⟨d2,by rw [e1];exact hbx⟩,by rw [e1];exact hk1.trans hkk⟩)⟩
  ·rw [qb_];iterate 5 rw [gpo (by omega)]
   exact f2
  ·rw [qb_,gpe (by simp only [qa_];omega)]
  ·iterate 5 rw [gpo (by omega)]
   exact f1
  ·iterate 5 rw [gpo (by omega)]
   exact f2
  ·simp only [qa_];exact fs
  ·simp only [qf_];exact fd
 obtain ⟨p1,p2,ps,pd,⟨d2,hb2⟩,hk2⟩:=hh
 have hv2:=hv.keep (hYL hk2)
 have hsrc:Src P 1 T.tSl v l.length (l.map octv) w2:=by
  rcases hv2 with ⟨rfl,rfl⟩ | ⟨vb,o,c,rfl,_,_,_,_,ho⟩
  ·exact src_nil ot w2 0
  ·exact src_oct ot ho
 refine .reg ?_
 refine q5_ (p:=⟨D,0,none⟩) (v:=d2) (by rw [qb_];exact p2) (hV.agg _) (cell hb2.box) (qd_ ?_)
 rw [qb_,gpo (by omega),p1]
 refine wl_appendDst ot (L:=L) (d:=d2) (x:=v) (l:=l) (by rw [qb_,gpo (by omega),gpe (by omega)]) (by rw [qb_,gpe (by simp only [qa_];omega)]) hb2.dst hsrc hb2.lim (by simp only [List.length_append];omega) fun d3 w3 hg=>?_
 obtain ⟨hb3,hbx,hkk⟩:=hb2.step hg
 refine q8_ (g:=D) (o:=0) (cur:=#[d2]) (t:=T.tSl) (v:=d3) (vs:=[d3]) ?_ ?_ (by rw [(one hg.dst).2]) (hV.size _) hb3 (by simp) (by simpa using (one hg.dst).1) (wpList_nil ⟨?_,rfl,⟨d3,?_⟩,by rw [e1];exact hk2.trans hkk⟩)
 ·rw [qb_];iterate 3 rw [gpo (by omega)]
  exact p2
 ·rw [qb_,gpe (by simp only [qa_];omega)]
 ·simp only [qf_];exact pd
 ·rw [e1]
  simpa [wTag,List.append_assoc] using hbx
end
end Go.Proofs.YtlmanancakaapaaGreatDoor.Kx

namespace Go.Proofs.YtlmanancakaapaaGreatDoor.Kx
open Go Go.ChangeMaps
section
variable {P:Program}
theorem wTags_two (t:List (Nat × Bs)):2 * t.length<=(qz_ t).length:=by
 induction t with
 | nil=>simp [qz_]
 | cons p t ih=>
  rw [wTags_cons,List.length_append,wTag_len,List.length_cons]
  have h1:=jr_ p.1
  have h2:=jr_ (w32 p.2.length)
  omega
theorem wTags_take {t:List (Nat × Bs)} {j:Nat} {p:Nat × Bs} (h:t[j]?=some p):qz_ (t.take (j + 1))=qz_ (t.take j)++wTag p:=by
 rw [List.take_add_one,h]
 simp [qz_]
theorem wTags_take_le (t:List (Nat × Bs)) (j:Nat):(qz_ (t.take j)).length<=(qz_ t).length:=by
 have:qz_ t=qz_ (t.take j)++qz_ (t.drop j):=by
  simp only [qz_,<- List.flatten_append,<- List.map_append,List.take_append_drop]
 rw [this,List.length_append]
 omega
theorem tg_keys {w:World} {X:Nat->Prop} {m:Value} {t:List (Nat × Bs)} (h:TgRp w X m t):∀ p ∈ t,p.1 < 4294967296:=fun p hp=>by
 rcases h with ⟨_,rfl⟩ | ⟨r,_,_,_,⟨es,c,f,_,hes,_,_,hpm,_⟩,_⟩
 ·simp at hp
 ·obtain ⟨e,he,rfl⟩:=List.mem_map.1 (hpm.mem_iff.2 hp)
  exact (hes e he).1
theorem teach_calls (hm:P.follows .mixedOrders=true) {T:TN} {te:Nat} (tf:TF P T) (hso:SortOk P T) (ot:OctT P T.tSl te) (hV:jp_ P T.tSl false 1) (hUE:Ent P T.fUv) (hUc:∀ (x:Nat) (w:World),x < 4294967296->ApC P te T.fUv (.int .u32 x) (uvar x) w)
  {f nt ntE nt1:Nat} (hfE:FnIs P T.fEach ntE [] (cEach T)) (hntE:53<=ntE) (hf1:FnIs P T.fOne nt1 [] (cTOne T)) (hnt1:16<=nt1) (hfn:FnIs P f nt [4] (cTEach T)) (hnt:9<=nt)
  {w:World} {b o L:Nat} {m d:Value} {t:List (Nat × Bs)} {bs:Bs} (hc:w.cell? ⟨b,o,none⟩=some m) (hb:b < w.heap.size/\d.ownBlock ≠ some b) (ht:TgRp w (fun k=>L<=k) m t) (hd:jh_ w L te d bs) (hL:L<=w.heap.size) (hlim:bs.length + (qz_ t).length<=LIM) :
  Calls P f #[pt b o,d] w fun e w'=>∃ d',e=.returned d'/\Gr L te d w d' (bs++qz_ t) w':=by
 refine callsA hm hfn (by simp) [pt b o,d] (by simp;omega) fun a harg hs hdf=>?_
 have g0:=harg 0 _ rfl
 have g1:=harg 1 _ rfl
 have lt:∀ i,i < 9->i < a.tmps.size:=fun i hi=>by omega
 have h2:=wTags_two t
 have hl46:LIM=70400000000000:=rfl
 have hcells:d.cells=#[d]:=by rcases hd with ⟨rfl,_⟩ | ⟨_,_,_,rfl,_⟩ <;> rfl
 have hown:∀ k,d.ownBlock=some k->k < w.heap.size:=fun k hk=>(hd.own hk).2
 have hkeys:=tg_keys ht
 unfold cTEach
 refine qh_ (qj_ ?_)
 refine qn_ (v:=pt w.heap.size 0) (w':=w.alloc (.cells #[d] T.tSl (0,0))) (by
  have e1:a.eval (tm 1)=d:=g1
  simp [execOp,mk,e1,Instr.box,newVar,newRow,newObj,Sem.run,hcells,pt]) (qg_ (wpList_nil ?_))
 rw [eval_const]
 have hsz1:(w.alloc (.cells #[d] T.tSl (0,0))).heap.size=w.heap.size + 1:=by simp
 have hbx1:=qs_ w (.cells #[d] T.tSl (0,0))
 have hk1:Keeps (fun _=>False) w (w.alloc (.cells #[d] T.tSl (0,0))):=Keeps.alloc _ _ _
 generalize w.alloc (.cells #[d] T.tSl (0,0))=w1 at hsz1 hbx1 hk1 ⊢
 refine qh_ (qj_ (qd_ ?_))
 rw [qb_,gpo (by omega),gpo (by omega),g0]
 refine qn_ (v:=.func (.func T.fOne) #[] #[pt w.heap.size 0]) (w':=w1) (by
  have key:∀ A:Act,A.eval (tm 3)=pt w.heap.size 0->(execOp A.eval (mk (some 6) (.makeFunc (.func T.fOne) #[] #[tm 3]))).run P w1=.ok (.value (.func (.func T.fOne) #[] #[pt w.heap.size 0])) w1:=fun A h=>by
   simp [execOp,mk,Instr.makeFunc,h]
  exact key _ (by simp [qb_,gp,lt,qa_])) ?_
 have heach:=each_calls hm tf hso hfE hntE (w:=w1) (b:=b) (o:=o) (L:=L) (fC:=T.fOne) (m:=m) (t:=t) (cap:=#[pt w.heap.size 0]) (I:=fun s1 j w'=>∃ d',Bx b T.tSl te L w.heap.size d w s1 (bs++qz_ (t.take j)) w' d')
  (hk1.cell id hc) (by have:=hb.1;omega) (by omega) (ht.keep (hk1.mono fun _ _ h=>h.elim)) (by omega) hf1.ent (fun w2 hk2=>?_) (fun s1 j w2 k l v hs1 hj hI hv=>?_)
 ·refine qv_ (vs:=#[pt b o,.func (.func T.fOne) #[] #[pt w.heap.size 0]]) hfE.ent (by simp [qb_,gp,lt,qa_]) heach fun e w2 hR=>?_
  obtain ⟨he,s1,hs1,d',hbx⟩:=hR
  refine ⟨_,he,wpList_nil (qh_ (qj_ ?_))⟩
  refine q5_ (p:=⟨w.heap.size,0,none⟩) (v:=d') (by simp [qb_,gp,lt,qa_,pt]) (hV.agg _) (by simp [World.cell?,hbx.box]) (qg_ (wpList_nil (qh_ (.ret ⟨?_,d',?_,?_⟩))))
  ·simp only [qf_];exact hdf
  ·rw [zd_]
   simp [qb_,gp,lt,qa_]
  ·have:=hbx.gr
   rwa [List.take_of_length_le (Nat.le_refl _)] at this
 ·have hkw:Keeps (fun _=>False) w w2:=hk1.trans hk2
  have hs2:=hk2.size
  refine ⟨d,⟨by rw [hk2.block _ (by omega) id];exact hbx1,?_,fun k hk=>.inl (hown k hk),⟨by omega,Nat.le_refl _⟩,⟨Nat.le_refl _,hL⟩,hb⟩⟩
  have e0:bs++qz_ (t.take 0)=bs:=by simp [qz_]
  rw [e0]
  exact ⟨hd.keep hkw fun _ _ h=>h,hkw.mono fun _ _ h=>h.elim,fun k hk=>.inl hk⟩
 ·obtain ⟨d',hbx⟩:=hI
  have hle:=wTags_take_le t (j + 1)
  rw [wTags_take hj,List.length_append] at hle
  have:=tone_calls hm ot hV tf.dInt tf.dU32 hUE hUc hf1 hnt1 hbx (hkeys _ (List.mem_of_getElem? hj)) hv (by
   rw [List.length_append]
   show bs.length + (qz_ (t.take j)).length + (wTag (k,l)).length<=LIM
   omega)
  refine this.mono fun e w3 h=>⟨h.1,?_,?_⟩
  ·obtain ⟨d'',h3⟩:=h.2.1
   refine ⟨d'',?_⟩
   rw [wTags_take hj,<- List.append_assoc]
   exact h3
  ·rw [hsz1];exact h.2.2
end
end Go.Proofs.YtlmanancakaapaaGreatDoor.Kx

namespace Go.Proofs.YtlmanancakaapaaGreatDoor.Kx
open Go Go.ChangeMaps Go.Shelf Go.Lib Go.Sort
section
variable {P:Program}
def lessOps (T:TN):List Oper:=[mk (some 6) (.load T.tKs (tm 2)),mk (some 7) (.move (tm 0)),mk (some 8) (.indexAddr T.tKs (tm 6) (tm 7)),mk (some 9) (.load T.tU32 (tm 8)),mk (some 10) (.load T.tKs (tm 2)),mk (some 11) (.move (tm 1)),mk (some 12) (.indexAddr T.tKs (tm 10) (tm 11)),mk (some 13) (.load T.tU32 (tm 12)),mk (some 14) (.binOp .lss T.tU32 (tm 9) (tm 13) 0)]
def cTLess (T:TN):Code:=sq [rg [mk (some 5) (.assign (.const (.bool false)))],.region 1 (lessOps T++[mk (some 5) (.assign (tm 14))]).toArray true,.ret]
theorem less_calls (hm:P.follows .mixedOrders=true) {T:TN} (tf:TF P T) {f nt:Nat} (hfn:FnIs P f nt [5] (cTLess T)) (hnt:15<=nt) {w:World} {V G n i j x y:Nat} (hV:w.cell? ⟨V,0,none⟩=some (.slice (some ⟨G,0,none⟩) n n)) (hi:i < n) (hj:j < n) (hx:w.cell? ⟨G,i,none⟩=some (z8_ x)) (hy:w.cell? ⟨G,j,none⟩=some (z8_ y)) :
  Calls P f #[.int .i64 (i:Int),.int .i64 (j:Int),pt V 0] w fun e w'=>e=.returned (.bool (decide (x < y)))/\w'=w.drew:=by
 refine callsA hm hfn (by simp) [.int .i64 (i:Int),.int .i64 (j:Int),pt V 0] (by simp;omega) fun a harg hs hd=>?_
 have g0:=harg 0 _ rfl
 have g1:=harg 1 _ rfl
 have g2:=harg 2 _ rfl
 unfold cTLess
 refine qh_ (qj_ (qg_ (wpList_nil ?_)))
 have hlo:xd_ (lessOps T++[mk (some 5) (.assign (tm 14))])=[false,false,false,false,false,false,false,false,false,true]:=by kernel_rfl
 refine qh_ (.drw (fun w'=>w'.heap=w.heap) ?_)
 rw [hlo]
 have hc:∀ {p:Addr} {v:Value},w.cell? p=some v->∀ w':World,w'.heap=w.heap->w'.cell? p=some v:=fun h w' hw=>by simpa [World.cell?,hw] using h
 have lt:∀ d,d < 15->d < (a.put (some 5) (Act.eval a (.const (.bool false)))).tmps.size:=fun d hd=>by simp only [qa_];omega
 have e0:(a.put (some 5) (Act.eval a (.const (.bool false)))).get 0=.int .i64 (i:Int):=by rw [gpo (by omega)];exact g0
 have e1:(a.put (some 5) (Act.eval a (.const (.bool false)))).get 1=.int .i64 (j:Int):=by rw [gpo (by omega)];exact g1
 have e2:(a.put (some 5) (Act.eval a (.const (.bool false)))).get 2=pt V 0:=by rw [gpo (by omega)];exact g2
 have ed:(a.put (some 5) (Act.eval a (.const (.bool false)))).defers=[]:=by rw [qf_];exact hd
 generalize a.put (some 5) (Act.eval a (.const (.bool false)))=a at lt e0 e1 e2 ed ⊢
 show evF P _ (lessOps T) a fun af=>wpLd P _ _ [mk (some 5) (.assign (tm 14))] af w.drew
 refine ev_load1 (p:=⟨V,0,none⟩) (v:=.slice (some ⟨G,0,none⟩) n n) (by rw [qb_];exact e2) tf.vK.agg (hc hV) (ev_move ?_)
 rw [qb_,gpo (by omega),e0]
 refine ev_index (b:=G) (o:=0) (m:=n) (c:=n) (i:=i) (k:=.i64) (sz:=1) (by simp [qb_,gp,lt,qa_]) (by simp [qb_,gp,lt,qa_]) hi tf.sl tf.vU.size ?_
 refine ev_load1 (p:=⟨G,0 + i * 1,none⟩) (v:=z8_ x) (by simp [qb_,gp,lt,qa_]) tf.vU.agg (by rw [Nat.zero_add,Nat.mul_one];exact hc hx) ?_
 refine ev_load1 (p:=⟨V,0,none⟩) (v:=.slice (some ⟨G,0,none⟩) n n) (by simp [qb_,gp,lt,qa_,e2,pt]) tf.vK.agg (hc hV) (ev_move ?_)
 rw [qb_,show Act.get _ 1=.int .i64 (j:Int) from by simp [gp,lt,qa_,e1]]
 refine ev_index (b:=G) (o:=0) (m:=n) (c:=n) (i:=j) (k:=.i64) (sz:=1) (by simp [qb_,gp,lt,qa_]) (by simp [qb_,gp,lt,qa_]) hj tf.sl tf.vU.size ?_
 refine ev_load1 (p:=⟨G,0 + j * 1,none⟩) (v:=z8_ y) (by simp [qb_,gp,lt,qa_]) tf.vU.agg (by rw [Nat.zero_add,Nat.mul_one];exact hc hy) ?_
 refine ev_bin (k:=.u32) (k2:=.u32) (m:=(x:Int)) (m2:=(y:Int)) (v:=.bool (decide (x < y))) (by simp [qb_,gp,lt,qa_,z8_]) (by simp [qb_,gp,lt,qa_,z8_]) (fun w'=>run_cmp (.inr (.inr (.inl ⟨rfl,by simp⟩)))) ?_
 refine ⟨rfl,?_⟩
 have key:∀ (A:Act) (Q:Exit->Act->World->Prop),(Q .normal (A.put (some 5) (A.eval (tm 14))) w.drew)->(mk (some 5) (.assign (tm 14))).wp P A w.drew (wpLd P (fun w'=>w'.heap=w.heap) Q []) (fun _ _ _=>False):=fun A Q hQ=>by
  unfold Oper.wp
  exact ⟨rfl,hQ⟩
 refine key _ _ (qh_ (cs:=[]) (.ret ⟨?_,?_,rfl⟩))
 ·simp only [qf_];exact ed
 ·rw [zd_]
  simp [qb_,gp,lt,qa_]
end
end Go.Proofs.YtlmanancakaapaaGreatDoor.Kx

namespace Go.Proofs.YtlmanancakaapaaGreatDoor.Kx
open Go Go.ChangeMaps Go.Shelf Go.Lib Go.Sort
section
variable {P:Program} {ρ:Ren}
def ltN (x y:Nat):Bool:=decide (x < y)
theorem swo_ltN:SWO ltN where
 irrefl x:=by simp [ltN]
 trans x y z h1 h2:=by simp only [ltN,decide_eq_true_eq] at h1 h2 ⊢;omega
 ntrans x y z h1 h2:=by simp only [ltN,decide_eq_false_iff_not] at h1 h2 ⊢;omega
theorem keeps_grow (X:Nat->Prop) (w:World) (os:Array Obj):Keeps X w (grow w os):=⟨rfl,rfl,rfl,by rw [size_grow];omega,fun k hk _=>heap_grow_old w os hk⟩
theorem sortOk_of (hm:P.follows .mixedOrders=true) {T:TN} (tf:TF P T) (L:LaysGg.n6 P ρ) (hρ:ρ.f 6=T.fSort) (hSE:Ent P T.fSort) {nt:Nat} (hfn:FnIs P T.fLess nt [5] (cTLess T)) (hnt:15<=nt) {it ie:TypeInfo} (hi:P.info? T.tKs=some it) (hd:it.desc=.slice T.tU32) (hpk:P.packed T.tKs=false)
  (hie:P.info? T.tU32=some ie) {ke:Nat} (hke:∀ w,(Extern.Rtype.kind T.tU32).run P w=.ok ke w) (hs1:ie.size=1) (hby:ie.bytes=4) (hptr:ie.hasPointers=false) (heg:∀ args w,(callFunc T.fLess args).run P w=.ok (.enter T.fLess args) w)
  {f1 f2 f6 : Nat} (h1 : P.funcs.findIdx? (·.name == "internal/reflectlite" ++ ".Swapper$" ++ toString 1) = some f1) (h2 : P.funcs.findIdx? (·.name == "internal/reflectlite" ++ ".Swapper$" ++ toString 2) = some f2) (h6 : P.funcs.findIdx? (·.name == "internal/reflectlite" ++ ".Swapper$" ++ toString 6) = some f6)
  (hx:∀ args W,(callFunc f6 args).run P W=((Extern.ReflectliteSwapper.swap true args).run P W).andThen fun v w'=>.ok (.value v) w'):SortOk P T:=by
 refine ⟨hSE,fun w V G n ks cur hks hn hk32 hV hG hcs hVG hat=>?_⟩
 rw [<- hρ]
 have hGl:G < w.heap.size:=(Array.getElem?_eq_some_iff.1 hG).1
 have hVl:V < w.heap.size:=(Array.getElem?_eq_some_iff.1 hV).1
 by_cases hn2:2<=n
 ·have hK:swapperK n ie ke=6:=by
   have c:(n == 0)=false:=by simp;omega
   have d:(n == 1)=false:=by simp;omega
   simp [swapperK,hptr,hby,c,d]
  have hdsz:ks.toArray.size=n:=by simpa using hks
  have hH:Holds z8_ w G 0 ks.toArray:=fun j hj=>by
   have hj':j < ks.length:=by simpa using hj
   have e1:ks[j]?=some ks.toArray[j]!:=by rw [getElem!_pos ks.toArray j hj];simp [hj']
   have:=hat j _ e1
   refine ⟨by simp [World.cell?,hG,this],by simp [World.frozen?,hG]⟩
  have hless:LessReads P T.fLess #[pt V 0] z8_ ltN G 0 ks.toArray.size w:=by
   intro m os dk hs i j hi hj
   have hHa:Holds z8_ (Sort.ahead w m) G 0 ks.toArray:=holds_ahead _ _ _ _ _ _ hH
   have hcell:∀ t,t < ks.toArray.size->(sortWorld z8_ w G 0 m dk os).cell? ⟨G,t,none⟩=some (z8_ dk[t]!):=fun t ht=>by
    unfold sortWorld
    rw [cell?_grow _ _ _ (by show G < (putRow z8_ (Sort.ahead w m) G 0 dk).heap.size;simp only [putRow,mapBlock];simpa using hGl)]
    have:=cell?_putRow z8_ (Sort.ahead w m) G 0 ks.toArray dk hHa hs t (by omega)
    rwa [Nat.zero_add] at this
   have hcV:(sortWorld z8_ w G 0 m dk os).cell? ⟨V,0,none⟩=some (.slice (some ⟨G,0,none⟩) n n):=by
    unfold sortWorld
    rw [cell?_grow _ _ _ (by show V < (putRow z8_ (Sort.ahead w m) G 0 dk).heap.size;simp only [putRow,mapBlock];simpa using hVl),cell?_putRow_other _ _ _ _ _ _ (.inl hVG)]
    show w.cell? ⟨V,0,none⟩=_
    simp [World.cell?,hV]
   have:=less_calls hm tf hfn hnt (w:=sortWorld z8_ w G 0 m dk os) (V:=V) (G:=G) (n:=n) (i:=i) (j:=j) hcV (by omega) (by omega) (hcell i hi) (hcell j hj)
   exact this.mono fun e w' h=>⟨h.1,1,h.2⟩
  have hS:=Any.sort_Slice_sorted L T.tKs T.tU32 it ie hi hd hpk hie ke hke hs1 tf.vU.agg z8_ (fun _=>rfl) ltN swo_ltN T.fLess #[pt V 0] heg G 0 n ks.toArray (by omega) (by omega) f6 (by rw [hdsz,hK];exact h6) true hx w hless hH hGl
  rw [hdsz] at hS
  refine hS.mono fun e w' h=>?_
  obtain ⟨he,d',m,os,hp,hso,rfl⟩:=h
  have hsz':d'.size=n:=hp.1.trans hdsz
  have hHa:Holds z8_ (Sort.ahead w m) G 0 ks.toArray:=holds_ahead _ _ _ _ _ _ hH
  have hPG:(putRow z8_ (Sort.ahead w m) G 0 d').heap[G]?=some (.cells (putCells z8_ 0 d' cur) T.tU32 (0,0)):=by
   simp only [putRow,mapBlock,Array.getElem?_modify,if_true]
   show (w.heap[G]?).map _=_
   rw [hG];rfl
  have hPk:Keeps (fun k=>k=G) w (putRow z8_ (Sort.ahead w m) G 0 d'):=⟨rfl,rfl,rfl,by show w.heap.size<=(w.heap.modify G _).size;simp,fun k _ hk=>by
   show (w.heap.modify G _)[k]?=_
   rw [Array.getElem?_modify,if_neg (fun e=>hk e.symm)]⟩
  have hPs:(putRow z8_ (Sort.ahead w m) G 0 d').heap.size=w.heap.size:=by show (w.heap.modify G _).size=_;simp
  refine ⟨he,hPk.trans (keeps_grow _ _ _),putCells z8_ 0 d' cur,d'.toList,by rw [heap_grow_old _ _ (by omega)];exact hPG,?_,?_,fun i x hx=>?_⟩
  ·have:=hp.2.2
   have e1:d'.extract 0 n=d':=by rw [<- hsz'];simp
   have e2:ks.toArray.extract 0 n=ks.toArray:=by rw [<- hdsz];simp
   rw [e1,e2] at this
   simpa using this
  ·rw [List.pairwise_iff_getElem]
   intro i j hi hj hij
   have hj':j < n:=by simp at hj;omega
   have:=hso i j (Nat.zero_le _) hij (by omega)
   simp only [ltN,decide_eq_false_iff_not] at this
   rw [getElem!_pos d' j (by omega),getElem!_pos d' i (by omega)] at this
   simp only [Array.getElem_toList]
   omega
  ·have hi':i < d'.size:=by
    have:=(List.getElem?_eq_some_iff.1 hx).1
    simpa using this
   have hc:=cell?_putRow z8_ (Sort.ahead w m) G 0 ks.toArray d' hHa (by omega) i hi'
   have e1:d'[i]! = x:=by
    rw [getElem!_pos d' i hi']
    have:=(List.getElem?_eq_some_iff.1 hx).2
    simpa using this
   simp only [World.cell?,hPG,Nat.zero_add,e1] at hc
   exact hc
 ·have hK:swapperK n ie ke=n + 1:=by
   rcases Nat.eq_zero_or_pos n with h | h
   ·subst h;simp [swapperK]
   ·obtain rfl:n=1:=by omega
    simp [swapperK]
  have hf : ∃ f, P.funcs.findIdx? (·.name == "internal/reflectlite" ++ ".Swapper$" ++ toString (swapperK n ie ke)) = some f := by
   rw [hK]
   rcases Nat.eq_zero_or_pos n with h | h
   ·subst h;exact ⟨f1,h1⟩
   ·obtain rfl:n=1:=by omega
    exact ⟨f2,h2⟩
  obtain ⟨f,hf⟩:=hf
  have hS:=Any.sort_Slice_tiny L T.tKs T.tU32 it ie hi hd hpk hie ke hke (some ⟨G,0,none⟩) n n (by omega) f hf (.func T.fLess) #[] #[pt V 0] w
  refine hS.mono fun e w' h=>?_
  obtain ⟨he,os,rfl⟩:=h
  refine ⟨he,keeps_grow _ _ _,cur,ks,by rw [heap_grow_old _ _ hGl];exact hG,.refl _,?_,hat⟩
  match ks,hks with
  | [],_=>simp
  | [x],_=>simp
  | x :: y :: r,h=>simp at h;omega
end
end Go.Proofs.YtlmanancakaapaaGreatDoor.Kx

namespace Go.Proofs.YtlmanancakaapaaGreatDoor.Kx
open Go
theorem fnIsC_of {P : Program} {f : Nat} {fn : Func} {ntmps s t : Nat} {d : Code} (hf : P.funcs[f]? = some fn) (hb : fn.body.map nCode = some d) (hn : fn.ntmps = ntmps) (hr : fn.results = #[ResultVar.cell s t]) (hg : (fn.name == "runtime.NumGoroutine") = false) : FnIsC P f ntmps s t d := by
 cases h:fn.body with
 | none=>rw [h] at hb;cases hb
 | some c=>
  rw [h] at hb
  exact ⟨fn,c,hf,h,Option.some.inj hb,hn,hr,hg⟩
def infoB (P:Program) (U:Nat):Bool:=match P.info? U with | some i=>(match i.zero with | some _=>i.size == 1 && i.bytes == 4 | none=>false) | none=>false
theorem infoB_ok {P:Program} {U:Nat} (h:infoB P U=true):∃ i z,P.info? U=some i/\i.zero=some z/\i.size=1/\i.bytes=4:=by
 unfold infoB at h
 split at h
 ·rename_i i hi
  split at h
  ·rename_i z hz
   simp only [Bool.and_eq_true,beq_iff_eq] at h
   exact ⟨i,z,hi,hz,h.1,h.2⟩
  ·cases h
 ·cases h
end Go.Proofs.YtlmanancakaapaaGreatDoor.Kx

namespace Go.Proofs.YtlmanancakaapaaGreatDoor.Kx
open Go Go.ChangeShapes Go.WideShapes Go.RowKit
section
variable {H:Type} {enc:TypeId × Value->H} {P:Program}
theorem shape_lt {w:World} {b:Nat} {x:TypeId × Nat} (h:w.shape? b=some x):b < w.heap.size:=by
 simp only [World.shape?] at h
 rcases Nat.lt_or_ge b w.heap.size with hb | hb
 ·exact hb
 ·rw [Array.getElem?_eq_none hb] at h
  cases h
theorem row_mem (a:Addr) {n:Nat} (h:0 < n):MemPlace.cell a.block a.off ∈ MemPlace.row a n:=by
 simp only [MemPlace.row,List.mem_map,List.mem_range]
 exact ⟨0,h,by simp⟩
theorem arg_octs {tSl tU8:TypeId} (hS:P.underlying tSl=some (.slice tU8)) (hE:P.underlying tU8=some (.int .u8)) (hc:P.cellsOf tU8=1) {W:World} {base:Nat} {v:Value} {d:DataW H} {p:List MemPlace}
  (hval:Value.okWide P W .any base tSl v) (h:DataW.Trod enc P W 0 (fun _=>true) true tSl v d p) :
  ∃ l:Bs,SlRp W (fun _=>False) v l/\∀ (W':World) (sp:Nat->Bool),Keeps (fun _=>False) W W'->(∀ x ∈ p,sp x.block=true)->DataW.Trod enc P W' 0 sp true tSl v d p:=by
 obtain ⟨a0,len0,cap0,rfl⟩:=okWide_slice hS hval
 obtain ⟨fuel,hf⟩:=h
 rcases open_ints hS hE hc hf with ⟨hcs,hx⟩ | ⟨a,len,cap,zs,hcs,hb,hl,hm,hzl,hx,hcell,hw⟩
 ·simp only [Value.cells,List.cons.injEq,and_true] at hcs
  simp only [Prod.mk.injEq] at hx
  obtain ⟨rfl,rfl⟩:=hx
  rw [hcs]
  exact ⟨[],.inl ⟨rfl,rfl⟩,fun W' sp _ _=>shut_slice_nil hS⟩
 ·simp only [Value.cells,List.cons.injEq,and_true] at hcs
  simp only [Prod.mk.injEq] at hx
  obtain ⟨rfl,rfl⟩:=hx
  rw [hcs] at hval ⊢
  have hzl:zs.length=cap:=by simpa using hzl
  have hhas:W.has P .any base a tU8 cap:=by
   simp only [Value.okWide,hS,Cell.okWide,Cell.ok] at hval
   exact hval.2.2
  obtain ⟨_,hspot,row,cells,hsh,_⟩:=hhas
  have hlt:=shape_lt hsh
  obtain ⟨b,o,spot⟩:=a
  have hspot:spot=none:=hspot
  subst hspot
  have hlt:b < W.heap.size:=hlt
  have hr:∀ z ∈ zs,0<=z/\z < 256:=fun z hz=>by
   have:=hw z hz
   simp [Lit.wf,IntKind.min,IntKind.max,IntKind.bits,IntKind.signed] at this
   omega
  refine ⟨(zs.take len).map fun z=>UInt8.ofNat z.toNat,.inr ⟨b,o,cap,?_,id,hlt,?_,hm,fun i x hx=>?_⟩,fun W' sp hk hsp=>?_⟩
  ·simp only [List.length_map,List.length_take]
   congr 1
   omega
  ·simp only [List.length_map,List.length_take]
   omega
  ·simp only [List.getElem?_map,Option.map_eq_some_iff] at hx
   obtain ⟨z,hz,rfl⟩:=hx
   have hi:i < len:=by
    rcases Nat.lt_or_ge i len with h | h
    ·exact h
    ·rw [List.getElem?_take,if_neg (by omega)] at hz;cases hz
   rw [List.getElem?_take,if_pos hi] at hz
   have hzm:z ∈ zs:=List.mem_of_getElem? hz
   have hzz:=hr z hzm
   have:=hcell i (by omega)
   rw [add_plain] at this
   rw [this]
   have e1:zs.getD i 0=z:=by simp [List.getD,hz]
   have e2:(UInt8.ofNat z.toNat).toNat=z.toNat:=UInt8.toNat_ofNat_of_lt (by simpa using (by omega:z.toNat < 256))
   rw [e1,e2,Int.toNat_of_nonneg hzz.1]
  ·have hz:zs.length=(if sp b then cap else len):=by
    by_cases h0:zs.length=0
    ·rw [h0];split <;> omega
    ·have:=hsp _ (row_mem ⟨b,o,none⟩ (n:=zs.length) (by omega))
     have hspb:sp b=true:=this
     rw [hspb,if_pos rfl];exact hzl
   exact ⟨2,shut_ints' 0 hS hE hc (Nat.zero_le _) hl hm hz (fun i hi=>by
    have:=hcell i hi
    rw [add_plain] at this
    exact hk.cell id this) hw⟩
theorem Keeps.butNone {w w':World} (h:Keeps (fun _=>False) w w') (may:MemPlace->Prop):w.keptBut w' may:=
 World.keptBut_mono (fun _ h=>h.elim) (World.keptBut_none_iff.2 ⟨h.os,h.output,fun i hi=>h.block i hi id⟩)
theorem row2 {f:FuncId} {fn:Func} {s:ChangeSpec} {tX tSl tU8 tB:TypeId} (hpar:fn.params.toList=[tX,tSl]) (hres:fn.resultTypes=#[tB]) (hX:P.underlying tX=some (.int .u8)) (hS:P.underlying tSl=some (.slice tU8)) (hE:P.underlying tU8=some (.int .u8)) (hc:P.cellsOf tU8=1) (hB:P.underlying tB=some .bool)
  (hv:s.vars=[]) (hs:∀ d1 d2:DataW H,s.fn H [d1,d2]={ results:=[.lit (.bool true)],args:=[d1,d2] }) {W:World} {base:Nat} {args:Array Value} {ds gs:List (DataW H)} {before:List MemPlace}
  (hval:∀ (j:Nat) t v,fn.params[j]?=some t->args[j]?=some v->Value.okWide P W .any base t v) (hW:DataW.Whole enc P fn.params.toList s.vars false W args.toList ds gs before)
  (hcall:∀ (x0:Nat) (srcv:Value) (l:Bs),x0 < 256->SlRp W (fun _=>False) srcv l->Calls P f #[.int .u8 x0,srcv] W fun e w'=>e=.returned (.bool true)/\Keeps (fun _=>False) W w') :
  Calls P f args W fun e W'=>∃ v,e=.returned v/\s.post enc P fn false true false false W args v W':=by
 have hW':=hW
 obtain ⟨p,q,hA0,hV,rfl,hfz,hnd⟩:=hW
 have hA:DataW.TrodAll enc P W 0 (fun _=>true) true fn.params.toList args.toList ds p:=hA0
 have hpj:∀ j,fn.params[j]?=([tX,tSl]:List TypeId)[j]?:=fun j=>by rw [<- hpar,Array.getElem?_toList]
 rw [hpar] at hA
 obtain ⟨v0,v1,d0,d1,p0,p1,rfl,rfl,rfl,h0,h1⟩:=trodAll_two hA
 rw [hv] at hV
 obtain ⟨rfl,rfl⟩:=trodVars_none hV
 obtain ⟨n,rfl,rfl,rfl,hn⟩:=open_int hX (hval 0 tX v0 (by rw [hpj];rfl) rfl) h0
 obtain ⟨l,hsl,hagain⟩:=arg_octs hS hE hc (hval 1 tSl v1 (by rw [hpj];rfl) rfl) h1
 have hn':0<=n/\n < 256:=by
  simp [Lit.wf,IntKind.min,IntKind.max,IntKind.bits,IntKind.signed] at hn
  omega
 have e:n=((n.toNat:Nat):Int):=by omega
 have hcl:=hcall n.toNat v1 l (by omega) hsl
 rw [<- e] at hcl
 refine hcl.mono fun e W' ⟨he,hk⟩=>?_
 subst he
 refine ⟨_,rfl,_,_,_,[],p1,[],hW',?_,?_,?_,hk.butNone _,fun h=>by cases h⟩
 ·rw [hres]
  simp only [List.append_nil,hs]
  exact trodAll_mk1 (shut_bool hB true)
 ·rw [hpar]
  simp only [List.append_nil,hs]
  have:=trodAll_mk2 (p:=[]) (shut_int (enc:=enc) (w:=W') (base:=0) (spare:=fun b=>decide (b < W.heap.size)) (held:=true) hX hn) (hagain W' (fun b=>decide (b < W.heap.size)) hk fun x hx=>by
   have:=hW'.lt x (by simp [hx])
   simpa using this)
  simpa using this
 ·rw [hv]
  simp only [List.append_nil,hs]
  rfl
theorem errAt_of_var {n:String} {W:World} {g:Nat} {t:TypeId} {x:Value} (hg:P.globalNamed n=some g) (h:W.var? P n=some #[.iface t x]):ErrAt g W:=
 ⟨t,x,by simpa using World.var?_cell hg h 0⟩
end
end Go.Proofs.YtlmanancakaapaaGreatDoor.Kx
