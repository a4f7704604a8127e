/-
  PLAIN LAWS AND CONTRACTS of messages, part 16 of 16: how readers and writers are printed, what they do, what the reference writes, and that what is written is read as the same. Nothing of a statement stands here.
-/
import Derived.Test.YthjaecnbgfohmadDoorK1
import Derived.Test.YthjaecnbgfohmadDoorK2
import Derived.Test.YthjaecnbgfohmadDoorK3
import Derived.Test.YthjaecnbgfohmadDoorK4
import Derived.Test.YthjaecnbgfohmadDoorK5
import Derived.Test.YthjaecnbgfohmadDoorK6
import Derived.Test.YthjaecnbgfohmadDoorK8
import Derived.Test.YthjaecnbgfohmadDoorK9
import Derived.Test.YthjaecnbgfohmadDoorK10
import Derived.Test.YthjaecnbgfohmadDoorK11
import Derived.Test.YthjaecnbgfohmadDoorK12
import Derived.Test.YthjaecnbgfohmadDoorK13
import Derived.Test.YthjaecnbgfohmadDoorK14
import Derived.Test.YthjaecnbgfohmadDoorK15

namespace Go.Proofs.YthjaecnbgfohmadDoor.Kx
open Go
set_option maxRecDepth 100000
structure KE where
 fK:Nat
 fB:Nat
 fA:Nat
 fN:Nat
 fRd:Nat
 fAp:Nat
 fDf:Nat
 tM:Nat
 tE:Nat
 most:Int
def kep_0 (S:SN) (_N:KE):List Oper:=[mk (some 3) (.box S.tMs (tm 0)),mk (some 5) (.box S.tT (tm 2)),mk (some 6) (.assign (.const q2_))]
def kep_1 (S:SN) (_N:KE):List Oper:=[mk (some 7) (.move (tm 1)),cl (some 8) S.fFix [(tm 7),(ki .i64 2)],mk (some 9) (.load S.tMs (tm 3)),mk (some 10) (.move (tm 1)),mk (some 11) (.load S.tT (tm 5)),cl (some 12) S.fWrite [(tm 9),(tm 10),(tm 11)],bi (some 13) .append [(tm 8),(tm 12)] [S.tSl,S.tSl] S.tSl,mk (some 6) (.assign (tm 13))]
def cKep (S:SN) (N:KE):Code:=
 (.seq (rg (kep_0 S N))
 (.seq (.region 1 (kep_1 S N).toArray true)
 .ret))
def nwv_0 (_S:SN) (N:KE):List Oper:=[mk (some 0) (.alloc N.tM)]
def nwv_1 (_S:SN) (N:KE):List Oper:=[mk (some 1) (.alloc N.tM)]
def nwv_2 (_S:SN) (N:KE):List Oper:=[cl (some 2) N.fDf [(tm 1)]]
def nwv_3 (_S:SN) (N:KE):List Oper:=[mk (some 3) (.load N.tM (tm 1)),mk none (.store N.tM (tm 0) (tm 3))]
def cNwv (S:SN) (N:KE):Code:=
 (.seq (rg (nwv_0 S N))
 (.seq (rg (nwv_1 S N))
 (.seq (rg (nwv_2 S N))
 (.seq (rg (nwv_3 S N))
 .ret))))
def agk_0 (_S:SN) (_N:KE):List Oper:=[mk (some 2) (.assign (.const q2_)),mk (some 3) (.assign (.const (.bool false)))]
def agk_1 (_S:SN) (N:KE):List Oper:=[cl (some 5) N.fN [],mk (some 4) (.alloc N.tM),mk none (.store N.tM (tm 4) (tm 5))]
def agk_2 (S:SN) (N:KE):List Oper:=[mk (some 6) (.move (tm 0)),bi (some 7) .append [(.const q2_),(tm 6)] [S.tSl,S.tSl] S.tSl,cl (some 8) N.fRd [(tm 4),(tm 7)],mk (some 9) (.binOp .neq N.tE (tm 8) (.const .nilIface) 0)]
def agk_3 (_S:SN) (_N:KE):List Oper:=[mk (some 2) (.assign (.const q2_)),mk (some 3) (.assign (.const (.bool false)))]
def agk_4 (_S:SN) (N:KE):List Oper:=[cl (some 10) N.fAp [(tm 4),(.const q2_)],mk (some 2) (.assign (tm 10)),mk (some 3) (.assign (.const (.bool true)))]
def cAgk (S:SN) (N:KE):Code:=
 (.seq (rg (agk_0 S N))
 (.seq (rg (agk_1 S N))
 (.seq (.seq (rg (agk_2 S N))
  (.cond (tm 9) (.seq (rg (agk_3 S N))
   .ret)
  .skip))
 (.seq (rg (agk_4 S N))
 .ret))))
def lck_0 (S:SN) (_N:KE):List Oper:=[mk (some 4) (.box S.tT (tm 1)),mk (some 6) (.assign (.const (.bool false)))]
def lck_1 (S:SN) (_N:KE):List Oper:=[mk (some 12) (.load S.tT (tm 4)),cl (some 13) S.fZ2 [(tm 12)],mk (some 14) (.unOp .not S.tB (tm 13))]
def lck_2 (_S:SN) (_N:KE):List Oper:=[mk (some 6) (.assign (.const (.bool true)))]
def lck_3 (S:SN) (N:KE):List Oper:=[cl (some 15) N.fB [],mk (some 16) (.move (tm 0)),mk (some 17) (.convert S.tU8 S.tInt (tm 16)),mk (some 18) (.binOp .rem S.tInt (tm 17) (ki .i64 N.most) 0),mk (some 19) (.load S.tT (tm 4)),cl (some 20) N.fK [(tm 15),(tm 18),(tm 19)],mk (some 7) (.assign (tm 20))]
def lck_4 (_S:SN) (N:KE):List Oper:=[mk (some 22) (.move (tm 7)),cl (some 23) N.fA [(tm 22)],mk (some 21) (.move (tm 23)),mk (some 24) (.extract (tm 21) 0),mk (some 25) (.extract (tm 21) 1),mk (some 8) (.assign (tm 24)),mk (some 9) (.assign (tm 25))]
def lck_5 (S:SN) (N:KE):List Oper:=[mk (some 27) (.move (tm 7)),mk (some 28) (.move (tm 2)),mk (some 29) (.convert S.tU16 S.tInt (tm 28)),mk (some 30) (.move (tm 7)),bi (some 31) .len [(tm 30)] [S.tSl] S.tInt,mk (some 32) (.binOp .rem S.tInt (tm 29) (tm 31) 0),mk (some 33) (.slice S.tSl (tm 27) none (some (tm 32)) none),cl (some 34) N.fA [(tm 33)],mk (some 26) (.move (tm 34)),mk (some 35) (.extract (tm 26) 0),mk (some 36) (.extract (tm 26) 1),mk (some 10) (.assign (tm 35)),mk (some 11) (.assign (tm 36))]
def lck_6 (S:SN) (_N:KE):List Oper:=[mk (some 37) (.move (tm 9)),mk (some 38) (.move (tm 37)),gd 39 (.move (tm 11)) 1 true,gd 40 (.unOp .not S.tB (tm 39)) 1 true,mk (some 41) (.pick (tm 38) (tm 40) (.const (.bool false))),mk (some 6) (.assign (tm 41))]
def cLck (S:SN) (N:KE):Code:=
 (.seq (rg (lck_0 S N))
 (.seq (.seq (rg (lck_1 S N))
  (.cond (tm 14) (.seq (rg (lck_2 S N))
   .ret)
  .skip))
 (.seq (.region 1 (lck_3 S N).toArray true)
 (.seq (rg (lck_4 S N))
 (.seq (rg (lck_5 S N))
 (.seq (rg (lck_6 S N))
 .ret))))))
def lak_0 (S:SN) (_N:KE):List Oper:=[mk (some 3) (.box S.tT (tm 1)),mk (some 4) (.assign (.const (.bool false)))]
def lak_1 (S:SN) (_N:KE):List Oper:=[mk (some 8) (.load S.tT (tm 3)),cl (some 9) S.fZ2 [(tm 8)],mk (some 10) (.unOp .not S.tB (tm 9))]
def lak_2 (_S:SN) (_N:KE):List Oper:=[mk (some 4) (.assign (.const (.bool true)))]
def lak_3 (S:SN) (N:KE):List Oper:=[cl (some 11) N.fB [],mk (some 12) (.move (tm 0)),mk (some 13) (.convert S.tU8 S.tInt (tm 12)),mk (some 14) (.binOp .rem S.tInt (tm 13) (ki .i64 N.most) 0),mk (some 15) (.load S.tT (tm 3)),cl (some 16) N.fK [(tm 11),(tm 14),(tm 15)],mk (some 5) (.assign (tm 16))]
def lak_4 (_S:SN) (N:KE):List Oper:=[mk (some 18) (.move (tm 5)),cl (some 19) N.fA [(tm 18)],mk (some 17) (.move (tm 19)),mk (some 20) (.extract (tm 17) 0),mk (some 21) (.extract (tm 17) 1),mk (some 6) (.assign (tm 20)),mk (some 7) (.assign (tm 21))]
def lak_5 (S:SN) (_N:KE):List Oper:=[mk (some 22) (.move (tm 7)),mk (some 23) (.move (tm 22)),gd 24 (.move (tm 6)) 1 true,gd 25 (.move (tm 5)) 1 true,gd 26 (.call ⟨.value (.func S.fSame),#[(tm 24),(tm 25)],#[]⟩) 1 true,mk (some 27) (.pick (tm 23) (tm 26) (.const (.bool false))),mk (some 4) (.assign (tm 27))]
def cLak (S:SN) (N:KE):Code:=
 (.seq (rg (lak_0 S N))
 (.seq (.seq (rg (lak_1 S N))
  (.cond (tm 10) (.seq (rg (lak_2 S N))
   .ret)
  .skip))
 (.seq (.region 1 (lak_3 S N).toArray true)
 (.seq (rg (lak_4 S N))
 (.seq (rg (lak_5 S N))
 .ret)))))
def lnk_0 (_S:SN) (_N:KE):List Oper:=[mk (some 2) (.assign (.const (.bool false)))]
def lnk_1 (S:SN) (_N:KE):List Oper:=[mk (some 9) (.move (tm 0)),bi (some 10) .len [(tm 9)] [S.tSl] S.tInt,mk (some 11) (.binOp .gtr S.tInt (tm 10) (ki .i64 2147483647) 0)]
def lnk_2 (_S:SN) (_N:KE):List Oper:=[mk (some 2) (.assign (.const (.bool true)))]
def lnk_3 (S:SN) (_N:KE):List Oper:=[mk (some 12) (.move (tm 0)),bi (some 13) .len [(tm 12)] [S.tSl] S.tInt,mk (some 14) (.binOp .gtr S.tInt (tm 13) (ki .i64 1000) 0)]
def lnk_4 (_S:SN) (_N:KE):List Oper:=[mk (some 2) (.assign (.const (.bool true)))]
def lnk_5 (S:SN) (N:KE):List Oper:=[cl (some 16) N.fB [],mk (some 17) (.build S.tT #[]),cl (some 18) N.fK [(tm 16),(ki .i64 0),(tm 17)],cl (some 19) N.fA [(tm 18)],mk (some 15) (.move (tm 19)),mk (some 20) (.extract (tm 15) 0),mk (some 21) (.extract (tm 15) 1),mk (some 3) (.assign (tm 20)),mk (some 4) (.assign (tm 21))]
def lnk_6 (_S:SN) (N:KE):List Oper:=[mk (some 23) (.move (tm 0)),cl (some 24) N.fA [(tm 23)],mk (some 22) (.move (tm 24)),mk (some 25) (.extract (tm 22) 0),mk (some 26) (.extract (tm 22) 1),mk (some 5) (.assign (tm 25)),mk (some 6) (.assign (tm 26))]
def lnk_7 (S:SN) (_N:KE):List Oper:=[mk (some 27) (.move (tm 4)),mk (some 28) (.unOp .not S.tB (tm 27)),mk (some 29) (.move (tm 28)),gd 30 (.move (tm 6)) 2 false,gd 31 (.unOp .not S.tB (tm 30)) 2 false,mk (some 32) (.pick (tm 29) (.const (.bool true)) (tm 31))]
def lnk_8 (_S:SN) (_N:KE):List Oper:=[mk (some 33) (.move (tm 4)),mk (some 2) (.assign (tm 33))]
def lnk_9 (_S:SN) (N:KE):List Oper:=[mk (some 35) (.move (tm 5)),cl (some 36) N.fA [(tm 35)],mk (some 34) (.move (tm 36)),mk (some 37) (.extract (tm 34) 0),mk (some 38) (.extract (tm 34) 1),mk (some 7) (.assign (tm 37)),mk (some 8) (.assign (tm 38))]
def lnk_10 (S:SN) (_N:KE):List Oper:=[mk (some 39) (.move (tm 8)),mk (some 40) (.move (tm 39)),gd 41 (.move (tm 5)) 1 true,gd 42 (.move (tm 7)) 1 true,gd 43 (.call ⟨.value (.func S.fSame),#[(tm 41),(tm 42)],#[]⟩) 1 true,mk (some 44) (.pick (tm 40) (tm 43) (.const (.bool false))),mk (some 2) (.assign (tm 44))]
def cLnk (S:SN) (N:KE):Code:=
 (.seq (rg (lnk_0 S N))
 (.seq (.seq (rg (lnk_1 S N))
  (.cond (tm 11) (.seq (rg (lnk_2 S N))
   .ret)
  .skip))
 (.seq (.seq (rg (lnk_3 S N))
  (.cond (tm 14) (.seq (rg (lnk_4 S N))
   .ret)
  .skip))
 (.seq (rg (lnk_5 S N))
 (.seq (rg (lnk_6 S N))
 (.seq (.seq (rg (lnk_7 S N))
  (.cond (tm 32) (.seq (rg (lnk_8 S N))
   .ret)
  .skip))
 (.seq (rg (lnk_9 S N))
 (.seq (rg (lnk_10 S N))
 .ret))))))))
end Go.Proofs.YthjaecnbgfohmadDoor.Kx

namespace Go.Proofs.YthjaecnbgfohmadDoor.Kx
def j3_ (v:Int) (fx:Bool) (sf:SFs) (t:Tr):Bs:=be 2 v++jb_ v fx sf t
theorem keptB_len (v:Int) (fx:Bool) (sf:SFs) (t:Tr):(j3_ v fx sf t).length=2 + (jb_ v fx sf t).length:=by rw [j3_,List.length_append,qw_]
theorem src0_ne {l:Bs} (h:l ≠ []):src0 l=⟨l,false,false⟩:=by
 cases l with
 | nil=>exact absurd rfl h
 | cons _ _=>rfl
section
variable {hf:Bool} {flex:Nat} {fs:Fds} {sf:SFs} {ver:Int} {fx:Bool}
theorem keep_msg (hfx:(hf && decide ((flex:Int)<=ver))=fx) (h:fitFds ver fx fs sf=true) (t:Tr) :
  ∃ v,xn_ hf flex fs ver ⟨jb_ ver fx sf t,false,false⟩=.ok v ⟨[],false,false⟩/\xg_ true hf flex fs ver v=j3_ ver fx sf t:=by
 obtain ⟨hp,htg⟩:=fit_plain ver fx fs sf h
 obtain ⟨i1,i2,i3⟩:=fit_fds ver fx fs sf 0 t h
 have e:=sPart_plain (ver:=ver) (fx:=fx) hp t
 rw [xd_ sf hp] at e
 refine ⟨.st (vFds ver fx fs sf 0 t) (if fx then sUnkT 0 t else []),?_,?_⟩
 ·simp only [xn_,hfx,htg]
  have:=sp_st (_ver:=ver) (fx:=fx) (tag:=rdTag fx ver fs) (t:=t) i1 [] false (fun hh=>by cases hh)
  rw [List.append_nil,<- e] at this
  exact this
 ·simp only [xg_,hfx,if_true,V.fields,V.tags,i2,j3_]
  rw [e]
theorem keep_vread (hv:-32768<=ver/\ver < 32768) (v0:Int) (l:Bs):j0_ true v0 (src0 (be 2 ver++l))=(ver,⟨l,false,false⟩):=by
 have hne:be 2 ver++l ≠ []:=by
  intro hh
  have:=congrArg List.length hh
  rw [List.length_append,qw_] at this
  simp at this
 rw [src0_ne hne]
 simp only [j0_,if_true]
 exact rI_be (.inr (.inl rfl)) (by simpa using hv) l false
theorem keep_again (hv:-32768<=ver/\ver < 32768) (hfx:(hf && decide ((flex:Int)<=ver))=fx) (h:fitFds ver fx fs sf=true) (t:Tr) (v0:Int) :
  againOut true hf flex fs v0 (j3_ ver fx sf t)=some (j3_ ver fx sf t)/\xn_ hf flex fs (j0_ true v0 (src0 (j3_ ver fx sf t))).1 (j0_ true v0 (src0 (j3_ ver fx sf t))).2 ≠ .stuck:=by
 obtain ⟨v,h1,h2⟩:=keep_msg hfx h t
 have hv':=keep_vread hv v0 (jb_ ver fx sf t)
 have hk:j3_ ver fx sf t=be 2 ver++jb_ ver fx sf t:=rfl
 refine ⟨?_,?_⟩
 ·unfold againOut
  rw [hk,hv']
  simp only [h1]
  rw [if_neg (by simp),h2,hk]
 ·rw [hk,hv']
  simp only [h1]
  intro hh
  cases hh
theorem keep_cut (hv:-32768<=ver/\ver < 32768) (hfx:(hf && decide ((flex:Int)<=ver))=fx) (h:fitFds ver fx fs sf=true) (h0:fitFds 0 (hf && decide ((flex:Int)<=0)) fs sf=true) (t:Tr) (v0:Int) (k:Nat) (hk:k < (j3_ ver fx sf t).length) :
  xn_ hf flex fs (j0_ true v0 (src0 ((j3_ ver fx sf t).take k))).1 (j0_ true v0 (src0 ((j3_ ver fx sf t).take k))).2 ≠ .stuck/\againOut true hf flex fs v0 ((j3_ ver fx sf t).take k)=none:=by
 have hE:∀ (v:Int) (b:Bool),(hf && decide ((flex:Int)<=v))=b->fitFds v b fs sf=true->Ext (xn_ hf flex fs v):=fun v b hb hh=>by
  have e:xn_ hf flex fs v=zd_ b false (rdFds b v fs) (rdTag b v fs):=by funext r;simp only [xn_,hb,(fit_plain v b fs sf hh).2]
  rw [e]
  exact ext_st (ext_fds v b fs sf hh)
 rw [keptB_len] at hk
 by_cases hk2:k < 2
 ·-- within the version
  have hl:((j3_ ver fx sf t).take k).length < 2:=by rw [List.length_take];omega
  have hvr:j0_ true v0 (src0 ((j3_ ver fx sf t).take k))=(0,.fail):=by
   have e:rU 2 (src0 ((j3_ ver fx sf t).take k))=(0,.fail):=if_pos hl
   simp only [j0_,if_true,rI,e]
   rfl
  have E:=hE 0 _ rfl h0
  unfold againOut
  rw [hvr]
  refine ⟨E.go _ rfl,?_⟩
  simp only
  cases hr:xn_ hf flex fs 0 RS.fail with
  | ok v r=>simp only [E.bad _ _ _ hr rfl,if_true]
  | err=>rfl
  | stuck=>rfl
 ·have e1:(j3_ ver fx sf t).take k=be 2 ver++(jb_ ver fx sf t).take (k - 2):=by
   rw [j3_,List.take_append,qw_,List.take_of_length_le (by rw [qw_];omega)]
  obtain ⟨v,h1,_⟩:=keep_msg hfx h t
  have E:=hE ver fx hfx h
  have hv':=keep_vread hv v0 ((jb_ ver fx sf t).take (k - 2))
  rw [e1]
  unfold againOut
  rw [hv']
  simp only
  have e2:(⟨(⟨(jb_ ver fx sf t).take (k - 2),false,false⟩:RS).src++(jb_ ver fx sf t).drop (k - 2),false,false⟩:RS)=⟨jb_ ver fx sf t,false,false⟩:=by simp only [List.take_append_drop]
  refine ⟨fun hs=>?_,?_⟩
  ·have:=E.stuck _ hs ((jb_ ver fx sf t).drop (k - 2)) false
   rw [e2,h1] at this
   cases this
  ·cases hr:xn_ hf flex fs ver ⟨(jb_ ver fx sf t).take (k - 2),false,false⟩ with
   | stuck=>rfl
   | err=>rfl
   | ok v1 r1=>
    simp only
    by_cases hb:r1.bad=true
    ·rw [if_pos hb]
    ·exfalso
     obtain ⟨v',e3⟩:=E.ok _ _ _ hr (jn_ hb) ((jb_ ver fx sf t).drop (k - 2)) false
     rw [e2,h1] at e3
     simp only [Out.ok.injEq,RS.mk.injEq] at e3
     have:=(List.append_eq_nil_iff.1 e3.2.1.symm).2
     have hl:=congrArg List.length this
     rw [List.length_drop] at hl
     simp only [List.length_nil] at hl
     omega
end
set_option maxRecDepth 4000
structure KeptC (P:Program) (gErr te:Nat) (hf:Bool) (flex:Nat) (fs:Fds) (toff:Option Nat) (T:Nat) (z:Array Value) (fR fA:Nat):Prop where
 z0:z.setIfInBounds 0 (.int .i16 0)=z
 rdE:Ent P fR
 rdC:∀ (w:World) (B S:Nat) (ver:Int) (srcv:Value) (r0:RS),w.heap[B]?=some (.cells (z.setIfInBounds 0 (.int .i16 ver)) T (0,0))->j9_ w S srcv r0->r0.bad=false->ErrAt gErr w->S < w.heap.size->B ≠ S->gErr ≠ B->xn_ hf flex fs (j0_ true ver r0).1 (j0_ true ver r0).2 ≠ .stuck ->
  Calls P fR #[pt B 0,srcv] w fun e w'=>∃ x,e=.returned x/\ReadPost fs toff B S T z.size w (j0_ true ver r0).1 (xn_ hf flex fs (j0_ true ver r0).1 (j0_ true ver r0).2) x w'
 apE:Ent P fA
 apC:∀ (w:World) (B:Nat) (ver:Int) (vs:List V) (t:List (Nat × Bs)),-32768<=ver/\ver < 32768->B < w.heap.size->w.cell? ⟨B,0,none⟩=some (.int .i16 ver)->RpF w (fun k=>w.heap.size<=k) fs B 0 vs->TgAt w (fun k=>w.heap.size<=k) B 0 toff t->(xg_ true hf flex fs ver (.st vs t)).length<=LIM ->
  Calls P fA #[pt B 0,q2_] w fun e w'=>∃ d',e=.returned d'/\q3_ w' w.heap.size te d' (xg_ true hf flex fs ver (.st vs t))/\Keeps (fun _=>False) w w'
def AgPost (out:Bs->Option Bs) (l:Bs) (w:World) (e:Ending) (w':World):Prop:=∃ y b,e=.returned (.tuple #[y,.bool b])/\Keeps (fun _=>False) w w'/\(out l=none->b=false/\y=q2_)/\(∀ bs,out l=some bs->b=true/\SlRp w' (fun _=>False) y bs)
def AgK (P:Program) (fA gErr:Nat) (out:Bs->Option Bs) (okIn:Bs->Prop):Prop:=∀ (w:World) (srcv:Value) (l:Bs),SlRp w (fun _=>False) srcv l->ErrAt gErr w->okIn l->Calls P fA [srcv].toArray w (AgPost out l w)
theorem ret2 {n s t:Nat} {a:Act} {w:World} {l:List (Nat × Value)} {u v:Value} {RR:Ending->World->Prop} (h:St n a l) (hu:l.lookup s=some u) (hv:l.lookup t=some v) (hR:RR (.returned (.tuple #[u,v])) w):a.defers=[]/\RR (.returned (ji_ [s,t] a)) w:=by
 refine ⟨h.defers,?_⟩
 show RR (.returned (.tuple #[a.get s,a.get t])) w
 rw [h.get s u hu,h.get t v hv]
 exact hR
section
variable {P:Program} {S:SN} {N:KE}
theorem copy_ok {tSl te gErr B:Nat} (ot:OctT P tSl te) {w:World} {srcv:Value} {l:Bs} (hsrc:SlRp w (fun _=>False) srcv l) (hll:l.length<=LIM) (hB:B < w.heap.size) (hg:gErr < w.heap.size) (hgB:gErr ≠ B) :
  ∃ d' w3 S',(Builtin.append_ #[tSl,tSl] tSl #[q2_,srcv]).run P w=.ok d' w3/\j9_ w3 S' d' (src0 l)/\Keeps (fun _=>False) w w3/\S' < w3.heap.size/\S' ≠ B:=by
 by_cases hl0:l=[]
 ·subst hl0
  have hS:Src P 1 tSl srcv 0 [] w:=by
   rcases hsrc with ⟨rfl,_⟩ | ⟨b,o,c,rfl,_,_,_,_,ho⟩
   ·exact src_nil ot w 0
   ·exact src_oct ot ho
  exact ⟨q2_,w,gErr,run_append_nil0 ot hS,.inl ⟨rfl,rfl,rfl⟩,Keeps.refl _ _,hg,hgB⟩
 ·have hS:Src P 1 tSl srcv l.length (l.map xb_) w:=by
   rcases hsrc with ⟨rfl,rfl⟩ | ⟨b,o,c,rfl,_,_,_,_,ho⟩
   ·exact absurd rfl hl0
   ·exact src_oct ot ho
  obtain ⟨d',w3,hr,hg'⟩:=xm_ (L:=w.heap.size) (ty:=tSl) ot (q3_.nil w w.heap.size te) hS (Nat.le_refl _) (by simpa using hll)
  rw [List.nil_append] at hg'
  have hk3:Keeps (fun _=>False) w w3:=hg'.keeps.mono fun k _ hk=>by simp [Value.ownBlock] at hk
  rcases hg'.dst with ⟨_,h⟩ | ⟨gg,c,cur,rfl,hL,hgb,hn,hc,hsz,hat⟩
  ·exact absurd h hl0
  ·have hlt:gg < w3.heap.size:=(Array.getElem?_eq_some_iff.1 hgb).1
   refine ⟨_,w3,gg,hr,.inr ⟨0,c,rfl,by cases l with | nil=>exact absurd rfl hl0 | cons _ _=>rfl,hn,hc,hlt,fun i y hi=>?_⟩,hk3,hlt,by omega⟩
   rw [Nat.zero_add]
   simp [World.cell?,hgb,hat i y hi,xb_]
def NwC (P:Program) (fN:Nat) (z:Array Value):Prop:=∀ w,Calls P fN ([]:List Value).toArray w fun e w'=>e=.returned (.agg z)/\Keeps (fun _=>False) w w'
theorem nwv_calls (hm:P.follows .mixedOrders=true) {z:Array Value} {zv:Value} {wr:List (Nat × Value)} {n:Nat} (hfn:FnIsC P N.fN 4 0 N.tM (cNwv S N)) (zM:∀ w,(zeroValue N.tM).run P w=.ok zv w) (hE:Ent P N.fDf) (hD:DfC P N.fDf wr) (hwr:∀ p ∈ wr,p.1 < zv.cells.size) (hz:z=applyWr zv.cells 0 wr)
  (vM:VarIs P N.tM true n) (hn:z.size=n) (hone:∀ u ∈ z.toList,u.oneCell'=true) (hzs:zv.cells.size=n):NwC P N.fN z:=by
 intro w
 refine callsTC hm hfn [] (by simp) fun a h=>?_
 unfold cNwv
 refine qt_ (nrg (st_alloc h (zM w) (by omega) fun a h=>wpList_nil ?_))
 have hn0:=qo_ w (.cells zv.cells N.tM (0,0))
 have hk0:Keeps (fun _=>False) w (w.alloc (.cells zv.cells N.tM (0,0))):=Keeps.alloc _ _ _
 have hz0:(w.alloc (.cells zv.cells N.tM (0,0))).heap.size=w.heap.size + 1:=by simp
 generalize w.alloc (.cells zv.cells N.tM (0,0))=w1 at hn0 hk0 hz0 ⊢
 refine qt_ (nrg (st_alloc h (zM w1) (by omega) fun a h=>wpList_nil ?_))
 have hn1:=qo_ w1 (.cells zv.cells N.tM (0,0))
 have hk1:Keeps (fun _=>False) w1 (w1.alloc (.cells zv.cells N.tM (0,0))):=Keeps.alloc _ _ _
 have hz1:(w1.alloc (.cells zv.cells N.tM (0,0))).heap.size=w1.heap.size + 1:=by simp
 generalize w1.alloc (.cells zv.cells N.tM (0,0))=w2 at hn1 hk1 hz1 ⊢
 refine qt_ (nrg (q7_ h hE (vs:=[pt w1.heap.size 0]) (fun n a h=>by
  simp only [List.map_cons,List.map_nil]
  rw [Hd.t (l:=_) (i:=1) rfl n a h]) (hD _ w1.heap.size 0 zv.cells N.tM hn1 (fun p hp=>by simpa using hwr p hp)) (by omega) fun e w3 hR=>⟨_,hR.1,fun a h=>wpList_nil ?_⟩))
 obtain ⟨_,hk3,hb3⟩:=hR
 have hb3':w3.heap[w1.heap.size]?=some (.cells z N.tM (0,0)):=by rw [hb3,hz]
 have hb0:w3.heap[w.heap.size]?=some (.cells zv.cells N.tM (0,0)):=by rw [hk3.block _ (by omega) (by omega),hk1.block _ (by omega) id];exact hn0
 have hc3:ql_ w3 w1.heap.size 0 z.toList:=fun j c hj=>by
  simp only [World.cell?,hb3',Option.isSome_none,Bool.false_eq_true,if_false,Nat.zero_add]
  simpa using hj
 have hzl:z.toList.length=n:=by simpa using hn
 have hagg:Value.agg z.toList.toArray=.agg z:=by simp
 refine qt_ (nrg (zi_ h (cs:=z.toList) (.t rfl) (by rw [hzl];exact vM) hc3 (by omega) fun a h=>?_))
 refine st_store h (cs:=z.toList) (v:=.agg z.toList.toArray) (.t rfl) (.t rfl) (by simp [Value.cells]) (by rw [hzl];exact vM.size) hb0 (by rw [hzl];exact hzs) hone (wpList_nil ?_)
 have hfin:=setRow_heap _ _ _ z.toList.toArray _ _ hb0
 refine .ret ⟨h.defers,⟨w.heap.size,0,none⟩,.agg z.toList.toArray,h.get 0 _ rfl,?_,by rw [hagg],?_⟩
 ·have hll:=run_loadCells_list (P:=P) (w3.setRow w.heap.size z.toList.toArray) ⟨w.heap.size,0,none⟩ z.toList (fun j c hj=>by
   rw [Addr.add_lit]
   simp only [World.cell?,hfin,Option.isSome_none,Bool.false_eq_true,if_false,Nat.zero_add]
   simpa using hj)
  rw [hzl] at hll
  simp [loadVar,vM.agg,vM.size,hll]
 ·have hk:Keeps (fun k=>w.heap.size<=k) w (w3.setRow w.heap.size z.toList.toArray):=((((hk0.trans hk1).mono fun _ _ h=>h.elim).trans (hk3.mono fun k _ hk=>by omega))).trans (Keeps.setRow _ _ _ _ (Nat.le_refl _))
  exact hk.mono fun k hk hX=>by omega
theorem agk_calls (R:RefT P S) {gErr flex:Nat} {hf:Bool} {fs:Fds} {toff:Option Nat} {z:Array Value} {zv:Value} (M:KeptC P gErr S.tU8 hf flex fs toff N.tM z N.fRd N.fAp) (hErr:∃ ms,P.underlying N.tE=some (.interface ms)) (hfn:FnIs P N.fA 11 [2,3] (cAgk S N)) (hNE:Ent P N.fN) (hNC:NwC P N.fN z)
  {n:Nat} (vM:VarIs P N.tM true n) (hn:z.size=n) (zM:∀ w,(zeroValue N.tM).run P w=.ok zv w) (hzs:zv.cells.size=n) (hone:∀ u ∈ z.toList,u.oneCell'=true) :
  AgK P N.fA gErr (fun l=>againOut true hf flex fs 0 l) fun l=>l.length<=LIM/\xn_ hf flex fs (j0_ true 0 (src0 l)).1 (j0_ true 0 (src0 l)).2 ≠ .stuck/\∀ bs,againOut true hf flex fs 0 l=some bs->bs.length<=LIM:=by
 obtain ⟨ms,hErr⟩:=hErr
 intro w srcv l hsrc herr ⟨hll,hgo,hlim⟩
 have herrlt:gErr < w.heap.size:=by obtain ⟨_,_,h⟩:=herr;exact j8_ h
 refine z9_ R.mixed hfn (by simp) _ (by simp) fun a h=>?_
 unfold cAgk
 refine qt_ (nrg (qd_ h .c (by omega) fun a h=>qd_ h .c (by omega) fun a h=>wpList_nil ?_))
 have hzl:z.toList.length=n:=by simpa using hn
 have hagg:Value.agg z.toList.toArray=.agg z:=by simp
 refine qt_ (nrg (q7_ h hNE (vs:=[]) (fun _ _ _=>rfl) (hNC w) (by omega) fun e w1 hR=>?_))
 obtain ⟨rfl,hk1⟩:=hR
 refine ⟨_,rfl,fun a h=>?_⟩
 rw [<- hagg] at h
 refine st_alloc h (zM w1) (by omega) fun a h=>?_
 have hnw:=qo_ w1 (.cells zv.cells N.tM (0,0))
 refine st_store h (cs:=z.toList) (v:=.agg z.toList.toArray) (.t rfl) (.t rfl) (by simp [Value.cells]) (by rw [hzl];exact vM.size) hnw (by rw [hzl];exact hzs) hone (wpList_nil ?_)
 have hb2:=setRow_heap _ _ _ z.toList.toArray _ _ hnw
 have hk2:Keeps (fun _=>False) w1 ((w1.alloc (.cells zv.cells N.tM (0,0))).setRow w1.heap.size z.toList.toArray):=((Keeps.alloc (fun k=>k=w1.heap.size) w1 _).trans (Keeps.setRow _ _ _ _ rfl)).mono fun k hk hX=>by omega
 generalize (w1.alloc (.cells zv.cells N.tM (0,0))).setRow w1.heap.size z.toList.toArray=w2 at hb2 hk2 ⊢
 have hk02:=hk1.trans hk2
 have hs1:=hk1.size
 have hBlt:w1.heap.size < w2.heap.size:=(Array.getElem?_eq_some_iff.1 hb2).1
 have hsrc2:=hsrc.keep hk02
 have herr2:ErrAt gErr w2:=herr.keep hk02 id
 obtain ⟨d',w3,S',hrun,hS3,hk3,hSlt,hSB⟩:=copy_ok (gErr:=gErr) (B:=w1.heap.size) R.oct hsrc2 hll hBlt (by omega) (by omega)
 have hs3:=hk3.size
 have hb3:w3.heap[w1.heap.size]?=some (.cells (z.setIfInBounds 0 (.int .i16 0)) N.tM (0,0)):=by
  rw [hk3.block _ hBlt id,hb2,M.z0]
 have herr3:ErrAt gErr w3:=herr2.keep hk3 id
 have hrd:=M.rdC w3 w1.heap.size S' 0 d' (src0 l) hb3 hS3 rfl herr3 hSlt (by omega) (by omega) hgo
 have hvv:=vread_range (kept:=true) (ver:=0) (r:=src0 l) ⟨by omega,by omega⟩
 have hk03:=hk02.trans hk3
 refine qt_ (qt_ (nrg (qi_ h (.t rfl) (by omega) fun a h=>?_)))
 refine wl_bltn (v:=d') (w':=w3) (by
  have e6:=Hd.t (l:=_) (i:=6) (v:=srcv) rfl _ a h
  have ec:a.eval (.const q2_)=q2_:=rfl
  simp [execOp,bi,resolve,invoke,builtin,e6,ec,hrun]) ?_
 have h:=h.put (d:=7) d' (by omega)
 refine q7_ h M.rdE (vs:=[pt w1.heap.size 0,d']) (fun n a h=>by
  simp only [List.map_cons,List.map_nil]
  rw [Hd.t (l:=_) (i:=4) rfl n a h,Hd.t (l:=_) (i:=7) rfl n a h]) hrd (by omega) fun e w4 hR4=>?_
 obtain ⟨y,rfl,hpost⟩:=hR4
 refine ⟨y,rfl,fun a h=>?_⟩
 have kB:∀ w4,Keeps (·=w1.heap.size) w3 w4->Keeps (fun _=>False) w w4:=fun w4 hk=>by
  have:Keeps (fun k=>w.heap.size<=k) w w4:=(hk03.mono fun _ _ h=>h.elim).trans (hk.mono fun k _ hk=>by omega)
  exact this.mono fun k hk hX=>by omega
 have hag:againOut true hf flex fs 0 l=match xn_ hf flex fs (j0_ true 0 (src0 l)).1 (j0_ true 0 (src0 l)).2 with | .ok v r=>if r.bad then none else some (xg_ true hf flex fs (j0_ true 0 (src0 l)).1 v) | _=>none:=rfl
 have bad:Keeps (·=w1.heap.size) w3 w4->againOut true hf flex fs 0 l=none->∀ (l0:List (Nat × Value)) (a:Act) (KK:Exit->Act->World->Prop),St 11 a l0->(∀ a' w',(a'.defers=[]/\AgPost (fun l=>againOut true hf flex fs 0 l) l w (.returned (ji_ [2,3] a')) w')->KK .ret a' w') ->
   NWP P (.seq (rg (agk_3 S N)) .ret) KK a w4:=by
  intro hkp hnone l0 a KK h hKK
  refine qt_ (nrg (qd_ h .c (by omega) fun a h=>qd_ h .c (by omega) fun a h=>wpList_nil (.ret (hKK _ _ ?_))))
  exact ret2 (RR:=AgPost (fun l=>againOut true hf flex fs 0 l) l w) h rfl rfl ⟨q2_,false,rfl,kB w4 hkp,fun _=>⟨rfl,rfl⟩,fun bs hbs=>by
   have hbs:againOut true hf flex fs 0 l=some bs:=hbs
   rw [hnone] at hbs
   cases hbs⟩
 generalize hvr:j0_ true 0 (src0 l)=vr at hpost hgo hvv hag
 generalize hout:xn_ hf flex fs vr.1 vr.2=out at hpost hgo hag
 cases out with
 | stuck=>exact absurd rfl hgo
 | err=>
  refine wl_neErr (b:=true) hErr (Hd.t (l:=_) (i:=8) rfl _ a h) (.inr ⟨hpost.2,rfl⟩) (wpList_nil ?_)
  have h:=h.put (d:=9) (.bool true) (by omega)
  refine jx_ h rfl (fun _=>?_) (fun hb=>by cases hb)
  exact bad hpost.1 hag _ _ _ h fun a' w' hh=>hh
 | ok v r=>
  by_cases hbadr:r.bad=true
  ·refine wl_neErr (b:=true) hErr (Hd.t (l:=_) (i:=8) rfl _ a h) (.inr ⟨hpost.2.2.1 hbadr,rfl⟩) (wpList_nil ?_)
   have h:=h.put (d:=9) (.bool true) (by omega)
   refine jx_ h rfl (fun _=>?_) (fun hb=>by cases hb)
   exact bad hpost.1 (by rw [hag];simp [hbadr]) _ _ _ h fun a' w' hh=>hh
  ·have hbf:r.bad=false:=by simpa using hbadr
   simp only [hbf,Bool.false_eq_true,if_false] at hag
   have hlim':=hlim _ hag
   refine wl_neErr (b:=false) hErr (Hd.t (l:=_) (i:=8) rfl _ a h) (.inl ⟨hpost.2.1 hbf,rfl⟩) (wpList_nil ?_)
   have h:=h.put (d:=9) (.bool false) (by omega)
   refine jx_ h rfl (fun hb=>by cases hb) (fun _=>.skip ?_)
   obtain ⟨hkB,_,_,vs,t,cur,rfl,hbB,hcsz,hc0,hfar,hft⟩:=hpost
   have hlt4:w1.heap.size < w4.heap.size:=(Array.getElem?_eq_some_iff.1 hbB).1
   have hcell:w4.cell? ⟨w1.heap.size,0,none⟩=some (.int .i16 vr.1):=by simp [World.cell?,hbB,hc0]
   have hrp:RpF w4 (fun k=>w4.heap.size<=k) fs w1.heap.size 0 vs:=RpF.mono (fun k hk hX=>by omega) fs w1.heap.size 0 vs (hfar (fun _=>False) (fun _ h=>h.elim) id)
   have htg:TgAt w4 (fun k=>w4.heap.size<=k) w1.heap.size 0 toff t:=(hft (fun _=>False) (fun _ h=>h.elim) id).mono fun k hk hX=>by omega
   refine qt_ (nrg (q7_ h M.apE (vs:=[pt w1.heap.size 0,q2_]) (fun n a h=>by
    simp only [List.map_cons,List.map_nil]
    rw [Hd.t (l:=_) (i:=4) rfl n a h]
    rfl) (M.apC w4 w1.heap.size vr.1 vs t hvv hlt4 hcell hrp htg hlim') (by omega) fun e w5 hR5=>?_))
   obtain ⟨d5,rfl,hd5,hk5⟩:=hR5
   refine ⟨d5,rfl,fun a h=>qd_ h (.t rfl) (by omega) fun a h=>qd_ h .c (by omega) fun a h=>wpList_nil (.ret ?_)⟩
   exact ret2 (RR:=AgPost (fun l=>againOut true hf flex fs 0 l) l w) h rfl rfl ⟨d5,true,rfl,(kB w4 hkB).trans hk5,(fun hh=>by
    have hh:againOut true hf flex fs 0 l=none:=hh
    rw [hag] at hh
    cases hh),(fun bs hbs=>⟨rfl,by
    have hbs:againOut true hf flex fs 0 l=some bs:=hbs
    rw [hag] at hbs
    obtain rfl:=Option.some.inj hbs
    exact hd5.sl⟩)⟩
theorem kep_calls (R:RefT P S) (hfn:FnIs P N.fK 14 [6] (cKep S N)) (hFE:Ent P S.fFix) (hF:∀ (x:Int) (k:Nat) (w:World),k<=8->Calls P S.fFix [.int .i64 x,.int .i64 (k:Int)].toArray w (jd_ S.tU8 (be k x) w)) (hWE:Ent P S.fWrite) {flex:Int} {sf:SFs} {ver:Int} {k:Nat} {cs:List Value} {t:Tr} {fv:Value}
  (hW:∀ (W:World),FsRp W sf fv->TrRp W k cs t->Calls P S.fWrite [.agg [fv,.int .i64 flex].toArray,.int .i64 ver,.agg cs.toArray].toArray W (jd_ S.tU8 (jb_ ver (sFx flex ver) sf t) W)) (W:World) (hfs:FsRp W sf fv) (ht:TrRp W k cs t) (hlim:(j3_ ver (sFx flex ver) sf t).length<=LIM) :
  Calls P N.fK [.agg [fv,.int .i64 flex].toArray,.int .i64 ver,.agg cs.toArray].toArray W (jd_ S.tU8 (j3_ ver (sFx flex ver) sf t) W):=by
 have h5:=ht.len
 refine z9_ R.mixed hfn (by simp) _ (by simp) fun a h=>?_
 unfold cKep
 refine qt_ (nrg (st_box h (cs:=[fv,.int .i64 flex]) (.t rfl) (by omega) fun a h=>?_))
 have hk1:Keeps (fun _=>False) W (W.alloc (.cells [fv,.int .i64 flex].toArray S.tMs (0,0))):=Keeps.alloc _ _ _
 have hc1:=jw_ W [fv,.int .i64 flex] S.tMs
 generalize W.alloc (.cells [fv,.int .i64 flex].toArray S.tMs (0,0))=w1 at hk1 hc1 ⊢
 refine st_box h (cs:=cs) (.t rfl) (by omega) fun a h=>qd_ h .c (by omega) fun a h=>wpList_nil ?_
 have hk2:Keeps (fun _=>False) w1 (w1.alloc (.cells cs.toArray S.tT (0,0))):=Keeps.alloc _ _ _
 have hc2:=jw_ w1 cs S.tT
 generalize w1.alloc (.cells cs.toArray S.tT (0,0))=w2 at hk2 hc2 ⊢
 have hc1:=ql_.kn hk2 hc1
 have hk02:=hk1.trans hk2
 have h:St 14 a [(1,.int .i64 ver),(3,pt W.heap.size 0),(5,pt w1.heap.size 0)]:=h.pick ⟨rfl,rfl,rfl,trivial⟩
 refine qt_ (ndrw [false,true,false,false,false,true,true,true] (fun w'=>Fa0 w2 w') (by kernel_rfl) ?_)
 show evF P _ [mk (some 7) (.move (tm 1)),mk (some 9) (.load S.tMs (tm 3)),mk (some 10) (.move (tm 1)),mk (some 11) (.load S.tT (tm 5))] a
  fun af=>wpLd P _ _ [cl (some 8) S.fFix [(tm 7),(ki .i64 2)],cl (some 12) S.fWrite [(tm 9),(tm 10),(tm 11)],bi (some 13) .append [(tm 8),(tm 12)] [S.tSl,S.tSl] S.tSl,mk (some 6) (.assign (tm 13))] af w2.drew
 refine xj_ h (.t rfl) (by omega) fun a h=>se_loadN h (cs:=[fv,.int .i64 flex]) (.t rfl) R.vM (fun w' hI=>Fa0.cells hI hc1) (by omega) fun a h=>xj_ h (.t rfl) (by omega) fun a h=>se_loadN h (cs:=cs) (.t rfl) (by rw [h5];exact R.vT) (fun w' hI=>Fa0.cells hI hc2) (by omega) fun a h=>se_nil ?_
 have hI0:Fa0 w2 w2.drew:=Fa0.of (Keeps.drew _ _)
 refine sl_call h hI0 hFE (vs:=[.int .i64 ver,.int .i64 ((2:Nat):Int)]) (fun n a h=>by
  simp only [List.map_cons,List.map_nil]
  rw [Hd.t (l:=_) (i:=7) rfl n a h]
  rfl) (hF ver 2 w2.drew (by omega)) (by omega) fun e w3 hR=>?_
 obtain ⟨v8,rfl,hd8,hk3⟩:=hR
 have hI3:=hI0.kn hk3
 have hf3:Fa0 W w3:=(Fa0.of hk02).up hI3 fun i hi=>Nat.le_trans hk02.size hi
 refine ⟨_,rfl,fun a h=>sl_call h hI3 hWE (vs:=[.agg [fv,.int .i64 flex].toArray,.int .i64 ver,.agg cs.toArray]) (fun n a h=>by
  simp only [List.map_cons,List.map_nil]
  rw [Hd.t (l:=_) (i:=9) rfl n a h,Hd.t (l:=_) (i:=10) rfl n a h,Hd.t (l:=_) (i:=11) rfl n a h]) (hW w3 (hfs.far hf3) (ht.far hf3)) (by omega) fun e w4 hR=>?_⟩
 obtain ⟨v12,rfl,hd12,hk4⟩:=hR
 have hI4:=hI3.kn hk4
 have hL:w2.drew.heap.size=w2.heap.size:=rfl
 have hd8':q3_ w4 w2.heap.size S.tU8 v8 (be 2 ver):=hd8.keep hk4 fun _ _ h=>h
 refine ⟨_,rfl,fun a h=>sl_app h hI4 R.oct (L:=w2.heap.size) (.t rfl) (.t rfl) hd8' (src_dst R.oct hd12) hI4.size (by rw [keptB_len] at hlim;rw [qw_];exact hlim) (by omega) fun v13 w5 a hg h=>?_⟩
 have hI5:=hI4.up hg.keeps fun k hk=>(hd8'.own hk).1
 refine sl_assign h hI5 (.t rfl) (by omega) fun a h=>sl_nil hI5 (.ret ?_)
 have hfin:Fa0 W w5:=(Fa0.of hk02).up hI5 fun i hi=>Nat.le_trans hk02.size hi
 exact ret1 (RR:=jd_ S.tU8 (j3_ ver (sFx flex ver) sf t) W) h rfl ⟨v13,rfl,(Gr.lower hk02.size (Gr.refl hg.dst)).dst,hfin.keeps⟩
theorem keptC_of {g:G} {gw:GW} {av avw:PF->Bool} {fl flw nl hf:Bool} {gErr te T fR fA flex:Nat} {fs:Fds} {toff:Option Nat} {z:Array Value} {D:Nat->Option (List (Nat × Value))} (En:Env P g av fl D) (K0:KW P gw avw flw nl te) {cx cw:Cx} {fD fRf kt ktw n0 n0w ntR ntRf ntA v6:Nat} {nm:Nm} {ms:List Nm}
  (hfl:cx.hf=true->fl=true) (hflw:cw.hf=true->flw=true) (hcx:cx.hf=hf) (hcw:cw.hf=hf) (hR:FnIs P fR ntR [4] (cRdF fRf)) (hnR:8<=ntR)
  (hRf:FnIs P fRf ntRf [6] (gRead g cx.hf true cx fs fD T kt flex n0 nm)) (h17:n0 + 17<=ntRf) (hA:FnIs P fA ntA [4] (gWrite gw true cw fs T ktw flex v6 n0w ms)) (hz0:z.setIfInBounds 0 (.int .i16 0)=z) (hg:g.gErr=gErr)
  (hchk:topOk ⟨P,g,av,D⟩ true cx fs fD T kt toff n0 ntRf nm z (topUsed g true cx fs fD T kt flex n0 nm)=true)
  (hchkW:topOkW ⟨P,gw,avw,nl⟩ true cw fs T ktw toff v6 n0w ntA ms (topUsedW gw true cw fs T ktw flex v6 n0w ms)=true):KeptC P gErr te hf flex fs toff T z fR fA where
 z0:=hz0
 rdE:=hR.ent
 rdC w B S ver srcv r0 hB hsrc hbad herr hSl hBS hgB hgo:=by
  subst hcx hg
  exact rdF_calls En.kb.mixed hR hnR hRf.ent (read_fn En hfl hRf hchk h17 hB hsrc hbad herr hSl hBS hgB hgo)
 apE:=hA.ent
 apC w B ver vs t hver hB hcell hr ht hlim:=by
  subst hcw
  exact write_fn K0 hflw hA hchkW hver hB hcell hr ht hlim
end
end Go.Proofs.YthjaecnbgfohmadDoor.Kx

namespace Go.Proofs.YthjaecnbgfohmadDoor.Kx
open Go
set_option maxRecDepth 4000
structure LawK (P:Program) (S:SN) (N:KE) (gErr most:Nat) (flex:Int) (sf:SFs) (out:Bs->Option Bs) (okIn:Bs->Prop):Prop where
 tab:RefT P S
 dU16:P.underlying S.tU16=some (.int .u16) \/ S.tU16=999999
 m0:N.most=(most:Int)
 mpos:0 < most
 zE:Ent P S.fZ2
 zC:∀ (w:World) (k:Nat) (cs:List Value) (t:Tr),TrRp w k cs t->SayC P S.fZ2 [.agg cs.toArray] w
 bE:Ent P N.fB
 bC:MsgBC P N.fB flex sf
 kE:Ent P N.fK
 kC:∀ (W:World) (ver:Int) (k:Nat) (cs:List Value) (t:Tr) (fv:Value),FsRp W sf fv->TrRp W k cs t->(j3_ ver (sFx flex ver) sf t).length<=LIM->Calls P N.fK [.agg [fv,.int .i64 flex].toArray,.int .i64 ver,.agg cs.toArray].toArray W (jd_ S.tU8 (j3_ ver (sFx flex ver) sf t) W)
 aE:Ent P N.fA
 aC:AgK P N.fA gErr out okIn
 sE:S.fSame=999999 \/ Ent P S.fSame
 sC:S.fSame=999999 \/ ∀ (w:World) (va vb:Value) (la lb:Bs),SlRp w (fun _=>False) va la->SlRp w (fun _=>False) vb lb->la.length<=maxLen->Calls P S.fSame [va,vb].toArray w fun e w'=>e=.returned (.bool (decide (la=lb)))/\Keeps (fun _=>False) w w'
section
variable {P:Program} {S:SN} {N:KE} {gErr most:Nat} {flex:Int} {sf:SFs} {out:Bs->Option Bs} {okIn:Bs->Prop}
theorem rem_nat {A:Nat} {x m:Nat} (hm:0 < m) (w:World):(binOp .rem A (.int .i64 (x:Int)) (.int .i64 (m:Int))).run P w=.ok (.int .i64 ((x % m:Nat):Int)) w:=by
 rw [run_rem (by omega),<- Int.ofNat_tmod]
theorem lak_calls (L:LawK P S N gErr most flex sf out okIn) (hS:S.fSame ≠ 999999) {f:Nat} (hfn:FnIs P f 28 [4] (cLak S N)) {x0:Nat} (hx:x0 < 256) {W:World} {k:Nat} {cs:List Value} {t:Tr} (ht:TrRp W k cs t) (herr:ErrAt gErr W) {ver:Int} (hver:ver=((x0 % most:Nat):Int))
  (hlen:(j3_ ver (sFx flex ver) sf t).length<=LIM) (hok:okIn (j3_ ver (sFx flex ver) sf t)) (hout:out (j3_ ver (sFx flex ver) sf t)=some (j3_ ver (sFx flex ver) sf t)):Calls P f [.int .u8 (x0:Int),.agg cs.toArray].toArray W (TrueC W):=by
 have T:=L.tab
 have hlen5:=ht.len
 have hSE:=L.sE.resolve_left hS
 have hSC:=L.sC.resolve_left hS
 refine z9_ T.mixed hfn (by simp) _ (by simp) fun a h=>?_
 unfold cLak
 have hk1:Keeps (fun _=>False) W (W.alloc (.cells cs.toArray S.tT (0,0))):=Keeps.alloc _ _ _
 have hc1:=jw_ W cs S.tT
 refine qt_ (nrg (st_box h (cs:=cs) (.t rfl) (by omega) fun a h=>qd_ h .c (by omega) fun a h=>wpList_nil ?_))
 generalize W.alloc (.cells cs.toArray S.tT (0,0))=w1 at hk1 hc1 ⊢
 refine qt_ (qt_ (nrg (zi_ h (cs:=cs) (.t rfl) (by rw [hlen5];exact T.vT) hc1 (by omega) fun a h=>q7_ h L.zE (vs:=[.agg cs.toArray]) (fun n a h=>by
  simp only [List.map_cons,List.map_nil]
  rw [Hd.t (l:=_) (i:=8) rfl n a h]) (L.zC w1 k cs t (ht.far (Fa0.of hk1))) (by omega) fun e w3 hR=>?_)))
 obtain ⟨b,rfl,hk3⟩:=hR
 refine ⟨_,rfl,fun a h=>st_not h (.t rfl) (by omega) fun a h=>wpList_nil ?_⟩
 have hk03:=hk1.trans hk3
 refine jx_ h rfl (fun _=>qt_ (nrg (qd_ h .c (by omega) fun a h=>wpList_nil (.ret (true_ret h rfl rfl hk03))))) (fun _=>.skip ?_)
 have hc3:ql_ w3 W.heap.size 0 cs:=ql_.kn hk3 hc1
 have h:St 28 a [(0,.int .u8 (x0:Int)),(3,pt W.heap.size 0)]:=h.pick ⟨rfl,rfl,trivial⟩
 refine qt_ (ndrw [true,false,false,false,false,true,true] (fun w'=>Keeps (fun _=>False) w3 w') (by kernel_rfl) ?_)
 show evF P _ [mk (some 12) (.move (tm 0)),mk (some 13) (.convert S.tU8 S.tInt (tm 12)),mk (some 14) (.binOp .rem S.tInt (tm 13) (ki .i64 N.most) 0),mk (some 15) (.load S.tT (tm 3))] a
  fun af=>wpLd P _ _ [cl (some 11) N.fB [],cl (some 16) N.fK [(tm 11),(tm 14),(tm 15)],mk (some 5) (.assign (tm 16))] af w3.drew
 have hw8:IntKind.i64.wrap ((x0:Nat):Int)=((x0:Nat):Int):=by simp [IntKind.wrap,IntKind.bits,IntKind.signed];omega
 refine xj_ h (.t rfl) (by omega) fun a h=>?_
 refine ev_conv (k:=.u8) (k':=.i64) (m:=(x0:Int)) (Hd.t (l:=_) (i:=12) rfl _ a h) T.dU8 T.dInt ?_
 rw [hw8]
 have h:=h.put (d:=13) (.int .i64 (x0:Int)) (by omega)
 refine ev_bin (k:=.i64) (m:=(x0:Int)) (k2:=.i64) (m2:=(most:Int)) (Hd.t (l:=_) (i:=13) rfl _ _ h) (by rw [<- L.m0];rfl) (fun w=>rem_nat L.mpos w) ?_
 have h:=h.put (d:=14) (.int .i64 ((x0 % most:Nat):Int)) (by omega)
 refine se_loadN h (cs:=cs) (.t rfl) (by rw [hlen5];exact T.vT) (fun w' hI=>ql_.kn hI hc3) (by omega) fun a h=>se_nil ?_
 rw [<- hver] at h
 have hI0:Keeps (fun _=>False) w3 w3.drew:=Keeps.drew _ _
 refine sl_call h hI0 L.bE (vs:=[]) (fun _ _ _=>rfl) (L.bC _) (by omega) fun e w4 hR=>?_
 obtain ⟨fv,rfl,hfs,hk4⟩:=hR
 have hI4:=hI0.trans hk4
 refine ⟨_,rfl,fun a h=>sl_call h hI4 L.kE (vs:=[.agg [fv,.int .i64 flex].toArray,.int .i64 ver,.agg cs.toArray]) (fun n a h=>by
  simp only [List.map_cons,List.map_nil]
  rw [Hd.t (l:=_) (i:=11) rfl n a h,Hd.t (l:=_) (i:=14) rfl n a h,Hd.t (l:=_) (i:=15) rfl n a h]) (L.kC w4 ver k cs t fv hfs (ht.far (Fa0.of (hk03.trans hI4))) hlen) (by omega) fun e w6 hR=>?_⟩
 obtain ⟨v,rfl,hd,hk6⟩:=hR
 have hI6:=hI4.trans hk6
 refine ⟨_,rfl,fun a h=>sl_assign h hI6 (.t rfl) (by omega) fun a h=>sl_nil hI6 ?_⟩
 have hk06:=hk03.trans hI6
 have hv6:SlRp w6 (fun _=>False) v (j3_ ver (sFx flex ver) sf t):=hd.sl
 generalize j3_ ver (sFx flex ver) sf t=bs at hlen hok hout hv6 hd
 have h:St 28 a [(5,v)]:=h.pick ⟨rfl,trivial⟩
 refine qt_ (nrg (qi_ h (.t rfl) (by omega) fun a h=>q7_ h L.aE (vs:=[v]) (fun n a h=>by
  simp only [List.map_cons,List.map_nil]
  rw [Hd.t (l:=_) (i:=18) rfl n a h]) (L.aC w6 v bs hv6 (herr.keep hk06 id) hok) (by omega) fun e w8 hR=>?_))
 obtain ⟨y,b,rfl,hk8,_,hsome⟩:=hR
 obtain ⟨rfl,hy⟩:=hsome bs hout
 refine ⟨_,rfl,fun a h=>qi_ h (.t rfl) (by omega) fun a h=>zh_ h (.t rfl) rfl (by omega) fun a h=>zh_ h (.t rfl) rfl (by omega) fun a h=>qd_ h (.t rfl) (by omega) fun a h=>qd_ h (.t rfl) (by omega) fun a h=>wpList_nil ?_⟩
 have hk08:=hk06.trans hk8
 have h:St 28 a [(5,v),(6,y),(7,.bool true)]:=h.pick ⟨rfl,rfl,rfl,trivial⟩
 refine qt_ (nrg (qi_ h (.t rfl) (by omega) fun a h=>qi_ h (.t rfl) (by omega) fun a h=>sg_move h rfl rfl rfl (by omega) (.t rfl) (by omega) fun a h=>sg_move h rfl rfl rfl (by omega) (.t rfl) (by omega) fun a h=>?_))
 refine sg_call (args:=[tm 24,tm 25]) (vs:=[y,v]) h rfl rfl rfl (by omega) hSE (fun n a h=>by
  simp only [List.map_cons,List.map_nil]
  rw [Hd.t (l:=_) (i:=24) rfl n a h,Hd.t (l:=_) (i:=25) rfl n a h]) (hSC w8 y v bs bs hy (hv6.keep hk8) (by simp only [LIM,maxLen] at hlen ⊢;omega)) (by omega) fun e w9 hR=>?_
 obtain ⟨rfl,hk9⟩:=hR
 refine ⟨_,rfl,fun a h=>zq_ h (.t rfl) (.t rfl) .c (by omega) fun a h=>qd_ h (.t rfl) (by omega) fun a h=>wpList_nil (.ret ?_)⟩
 exact true_ret h rfl (by simp) (hk08.trans hk9)
theorem lck_calls (L:LawK P S N gErr most flex sf out okIn) (hU:S.tU16 ≠ 999999) {f:Nat} (hfn:FnIs P f 42 [6] (cLck S N)) {x0 x2:Nat} (hx:x0 < 256) (hx2:x2 < 65536) {W:World} {k:Nat} {cs:List Value} {t:Tr} (ht:TrRp W k cs t) (herr:ErrAt gErr W) {ver:Int} (hver:ver=((x0 % most:Nat):Int))
  (hlen:(j3_ ver (sFx flex ver) sf t).length<=LIM) (hok:okIn (j3_ ver (sFx flex ver) sf t)) (hout:out (j3_ ver (sFx flex ver) sf t)=some (j3_ ver (sFx flex ver) sf t))
  (hcut:∀ j,j < (j3_ ver (sFx flex ver) sf t).length->okIn ((j3_ ver (sFx flex ver) sf t).take j)/\out ((j3_ ver (sFx flex ver) sf t).take j)=none):Calls P f [.int .u8 (x0:Int),.agg cs.toArray,.int .u16 (x2:Int)].toArray W (TrueC W):=by
 have T:=L.tab
 have hlen5:=ht.len
 have hU16:=L.dU16.resolve_right hU
 refine z9_ T.mixed hfn (by simp) _ (by simp) fun a h=>?_
 unfold cLck
 have hk1:Keeps (fun _=>False) W (W.alloc (.cells cs.toArray S.tT (0,0))):=Keeps.alloc _ _ _
 have hc1:=jw_ W cs S.tT
 refine qt_ (nrg (st_box h (cs:=cs) (.t rfl) (by omega) fun a h=>qd_ h .c (by omega) fun a h=>wpList_nil ?_))
 generalize W.alloc (.cells cs.toArray S.tT (0,0))=w1 at hk1 hc1 ⊢
 refine qt_ (qt_ (nrg (zi_ h (cs:=cs) (.t rfl) (by rw [hlen5];exact T.vT) hc1 (by omega) fun a h=>q7_ h L.zE (vs:=[.agg cs.toArray]) (fun n a h=>by
  simp only [List.map_cons,List.map_nil]
  rw [Hd.t (l:=_) (i:=12) rfl n a h]) (L.zC w1 k cs t (ht.far (Fa0.of hk1))) (by omega) fun e w3 hR=>?_)))
 obtain ⟨b,rfl,hk3⟩:=hR
 refine ⟨_,rfl,fun a h=>st_not h (.t rfl) (by omega) fun a h=>wpList_nil ?_⟩
 have hk03:=hk1.trans hk3
 refine jx_ h rfl (fun _=>qt_ (nrg (qd_ h .c (by omega) fun a h=>wpList_nil (.ret (true_ret h rfl rfl hk03))))) (fun _=>.skip ?_)
 have hc3:ql_ w3 W.heap.size 0 cs:=ql_.kn hk3 hc1
 have h:St 42 a [(0,.int .u8 (x0:Int)),(2,.int .u16 (x2:Int)),(4,pt W.heap.size 0)]:=h.pick ⟨rfl,rfl,rfl,trivial⟩
 refine qt_ (ndrw [true,false,false,false,false,true,true] (fun w'=>Keeps (fun _=>False) w3 w') (by kernel_rfl) ?_)
 show evF P _ [mk (some 16) (.move (tm 0)),mk (some 17) (.convert S.tU8 S.tInt (tm 16)),mk (some 18) (.binOp .rem S.tInt (tm 17) (ki .i64 N.most) 0),mk (some 19) (.load S.tT (tm 4))] a
  fun af=>wpLd P _ _ [cl (some 15) N.fB [],cl (some 20) N.fK [(tm 15),(tm 18),(tm 19)],mk (some 7) (.assign (tm 20))] af w3.drew
 have hw8:IntKind.i64.wrap ((x0:Nat):Int)=((x0:Nat):Int):=by simp [IntKind.wrap,IntKind.bits,IntKind.signed];omega
 refine xj_ h (.t rfl) (by omega) fun a h=>?_
 refine ev_conv (k:=.u8) (k':=.i64) (m:=(x0:Int)) (Hd.t (l:=_) (i:=16) rfl _ a h) T.dU8 T.dInt ?_
 rw [hw8]
 have h:=h.put (d:=17) (.int .i64 (x0:Int)) (by omega)
 refine ev_bin (k:=.i64) (m:=(x0:Int)) (k2:=.i64) (m2:=(most:Int)) (Hd.t (l:=_) (i:=17) rfl _ _ h) (by rw [<- L.m0];rfl) (fun w=>rem_nat L.mpos w) ?_
 have h:=h.put (d:=18) (.int .i64 ((x0 % most:Nat):Int)) (by omega)
 refine se_loadN h (cs:=cs) (.t rfl) (by rw [hlen5];exact T.vT) (fun w' hI=>ql_.kn hI hc3) (by omega) fun a h=>se_nil ?_
 rw [<- hver] at h
 have hI0:Keeps (fun _=>False) w3 w3.drew:=Keeps.drew _ _
 refine sl_call h hI0 L.bE (vs:=[]) (fun _ _ _=>rfl) (L.bC _) (by omega) fun e w4 hR=>?_
 obtain ⟨fv,rfl,hfs,hk4⟩:=hR
 have hI4:=hI0.trans hk4
 refine ⟨_,rfl,fun a h=>sl_call h hI4 L.kE (vs:=[.agg [fv,.int .i64 flex].toArray,.int .i64 ver,.agg cs.toArray]) (fun n a h=>by
  simp only [List.map_cons,List.map_nil]
  rw [Hd.t (l:=_) (i:=15) rfl n a h,Hd.t (l:=_) (i:=18) rfl n a h,Hd.t (l:=_) (i:=19) rfl n a h]) (L.kC w4 ver k cs t fv hfs (ht.far (Fa0.of (hk03.trans hI4))) hlen) (by omega) fun e w6 hR=>?_⟩
 obtain ⟨v,rfl,hd,hk6⟩:=hR
 have hI6:=hI4.trans hk6
 refine ⟨_,rfl,fun a h=>sl_assign h hI6 (.t rfl) (by omega) fun a h=>sl_nil hI6 ?_⟩
 have hk06:=hk03.trans hI6
 have hv6:SlRp w6 (fun _=>False) v (j3_ ver (sFx flex ver) sf t):=hd.sl
 have hpos:0 < (j3_ ver (sFx flex ver) sf t).length:=by rw [keptB_len];omega
 generalize j3_ ver (sFx flex ver) sf t=bs at hlen hok hout hcut hv6 hd hpos
 have h:St 42 a [(2,.int .u16 (x2:Int)),(7,v)]:=h.pick ⟨rfl,rfl,trivial⟩
 refine qt_ (nrg (qi_ h (.t rfl) (by omega) fun a h=>q7_ h L.aE (vs:=[v]) (fun n a h=>by
  simp only [List.map_cons,List.map_nil]
  rw [Hd.t (l:=_) (i:=22) rfl n a h]) (L.aC w6 v bs hv6 (herr.keep hk06 id) hok) (by omega) fun e w8 hR=>?_))
 obtain ⟨y,b,rfl,hk8,_,hsome⟩:=hR
 obtain ⟨rfl,hy⟩:=hsome bs hout
 refine ⟨_,rfl,fun a h=>qi_ h (.t rfl) (by omega) fun a h=>zh_ h (.t rfl) rfl (by omega) fun a h=>zh_ h (.t rfl) rfl (by omega) fun a h=>qd_ h (.t rfl) (by omega) fun a h=>qd_ h (.t rfl) (by omega) fun a h=>wpList_nil ?_⟩
 have hk08:=hk06.trans hk8
 have hv8:SlRp w8 (fun _=>False) v bs:=hv6.keep hk8
 have h:St 42 a [(2,.int .u16 (x2:Int)),(7,v),(9,.bool true)]:=h.pick ⟨rfl,rfl,rfl,trivial⟩
 obtain ⟨base,c,hvf,_⟩:=hv8.form
 subst hvf
 have hjl:x2 % bs.length < bs.length:=Nat.mod_lt _ hpos
 obtain ⟨hsl,hcap,hspot⟩:=slRp_take hv8 rfl (Nat.le_of_lt hjl)
 obtain ⟨hokj,houtj⟩:=hcut _ hjl
 have hw16:IntKind.i64.wrap ((x2:Nat):Int)=((x2:Nat):Int):=by simp [IntKind.wrap,IntKind.bits,IntKind.signed];omega
 refine qt_ (nrg (qi_ h (.t rfl) (by omega) fun a h=>qi_ h (.t rfl) (by omega) fun a h=>st_conv h (.t rfl) hU16 T.dInt (by omega) fun a h=>?_))
 rw [hw16] at h
 refine qi_ h (.t rfl) (by omega) fun a h=>xe_ h (.t rfl) T.oct.und (by omega) fun a h=>xw_ h (.t rfl) (.t rfl) (by simp) (rem_nat hpos w8) (by omega) fun a h=>?_
 refine qp_ (v:=.slice base (x2 % bs.length) c) (w':=w8) (rn_sliceTo h (.t rfl) (.t rfl) T.oct.und T.vU8.size (Nat.le_of_lt hjl) hcap hspot) ?_
 have h:=h.put (d:=33) (.slice base (x2 % bs.length) c) (by omega)
 refine q7_ h L.aE (vs:=[.slice base (x2 % bs.length) c]) (fun n a h=>by
  simp only [List.map_cons,List.map_nil]
  rw [Hd.t (l:=_) (i:=33) rfl n a h]) (L.aC w8 _ _ hsl (herr.keep hk08 id) hokj) (by omega) fun e w10 hR=>?_
 obtain ⟨y2,b2,rfl,hk10,hnone,_⟩:=hR
 obtain ⟨rfl,rfl⟩:=hnone houtj
 refine ⟨_,rfl,fun a h=>qi_ h (.t rfl) (by omega) fun a h=>zh_ h (.t rfl) rfl (by omega) fun a h=>zh_ h (.t rfl) rfl (by omega) fun a h=>qd_ h (.t rfl) (by omega) fun a h=>qd_ h (.t rfl) (by omega) fun a h=>wpList_nil ?_⟩
 have h:St 42 a [(9,.bool true),(11,.bool false)]:=h.pick ⟨rfl,rfl,trivial⟩
 refine qt_ (nrg (qi_ h (.t rfl) (by omega) fun a h=>qi_ h (.t rfl) (by omega) fun a h=>sg_move h rfl rfl rfl (by omega) (.t rfl) (by omega) fun a h=>?_))
 refine st_gd h rfl rfl rfl (by omega) (v:=.bool true) (by
  have e:=Hd.t (l:=_) (i:=39) (v:=.bool false) rfl _ a h
  simp [execOp,mk,e,Op.unary]) (by omega) fun a h=>?_
 refine zq_ h (.t rfl) (.t rfl) .c (by omega) fun a h=>qd_ h (.t rfl) (by omega) fun a h=>wpList_nil (.ret ?_)
 exact true_ret h rfl (by simp) (hk08.trans hk10)
def okInK (hf:Bool) (flexN:Nat) (fs:Fds) (l:Bs):Prop:=l.length<=LIM/\xn_ hf flexN fs (j0_ true 0 (src0 l)).1 (j0_ true 0 (src0 l)).2 ≠ .stuck/\∀ bs,againOut true hf flexN fs 0 l=some bs->bs.length<=LIM
def fitK (hf:Bool) (flexN most:Nat) (flex:Int) (fs:Fds) (sf:SFs):Bool:=decide (0 < most) && decide (most<=32768) && (List.range most).all fun v=>fitFds (v:Int) (sFx flex (v:Int)) fs sf && ((hf && decide ((flexN:Int)<=(v:Int))) == sFx flex (v:Int))
theorem fitK_at {hf:Bool} {flexN:Nat} {fs:Fds} (h:fitK hf flexN most flex fs sf=true) {v:Nat} (hv:v < most):(fitFds (v:Int) (sFx flex (v:Int)) fs sf=true/\(hf && decide ((flexN:Int)<=(v:Int)))=sFx flex (v:Int))/\0 < most/\most<=32768:=by
 simp only [fitK,Bool.and_eq_true,decide_eq_true_eq] at h
 have:=List.all_eq_true.1 h.2 v (by simpa using hv)
 exact ⟨by simpa using this,h.1.1,h.1.2⟩
theorem againK_law {hf:Bool} {flexN:Nat} {fs:Fds} (L:LawK P S N gErr most flex sf (fun l=>againOut true hf flexN fs 0 l) (okInK hf flexN fs)) (hfit:fitK hf flexN most flex fs sf=true) (hS:(S.fSame != 999999)=true) {f:Nat} (hfn:FnIs P f 28 [4] (cLak S N)) {x0:Nat} (hx:x0 < 256) {W:World} {k:Nat} {cs:List Value} {t:Tr} (ht:TrRp W k cs t) (herr:ErrAt gErr W)
  (hlen:∀ v:Nat,(j3_ (v:Int) (sFx flex (v:Int)) sf t).length<=LIM):Calls P f [.int .u8 (x0:Int),.agg cs.toArray].toArray W (TrueC W):=by
 have hv:x0 % most < most:=Nat.mod_lt _ L.mpos
 obtain ⟨⟨h1,h2⟩,_,hm⟩:=fitK_at hfit hv
 have hl:=hlen (x0 % most)
 obtain ⟨ha,hg⟩:=keep_again (ver:=((x0 % most:Nat):Int)) ⟨by omega,by omega⟩ h2 h1 t 0
 exact lak_calls L (by simpa using hS) hfn hx ht herr rfl hl ⟨hl,hg,fun bs hbs=>by rw [ha] at hbs;rw [<- Option.some.inj hbs];exact hl⟩ ha
theorem cutK_law {hf:Bool} {flexN:Nat} {fs:Fds} (L:LawK P S N gErr most flex sf (fun l=>againOut true hf flexN fs 0 l) (okInK hf flexN fs)) (hfit:fitK hf flexN most flex fs sf=true) (hU:(S.tU16 != 999999)=true) {f:Nat} (hfn:FnIs P f 42 [6] (cLck S N)) {x0 x2:Nat} (hx:x0 < 256) (hx2:x2 < 65536) {W:World} {k:Nat} {cs:List Value} {t:Tr} (ht:TrRp W k cs t) (herr:ErrAt gErr W)
  (hlen:∀ v:Nat,(j3_ (v:Int) (sFx flex (v:Int)) sf t).length<=LIM):Calls P f [.int .u8 (x0:Int),.agg cs.toArray,.int .u16 (x2:Int)].toArray W (TrueC W):=by
 have hv:x0 % most < most:=Nat.mod_lt _ L.mpos
 obtain ⟨⟨h1,h2⟩,_,hm⟩:=fitK_at hfit hv
 obtain ⟨⟨z1,z2⟩,_⟩:=fitK_at hfit (v:=0) L.mpos
 have hl:=hlen (x0 % most)
 obtain ⟨ha,hg⟩:=keep_again (ver:=((x0 % most:Nat):Int)) ⟨by omega,by omega⟩ h2 h1 t 0
 refine lck_calls L (by simpa using hU) hfn hx hx2 ht herr rfl hl ⟨hl,hg,fun bs hbs=>by rw [ha] at hbs;rw [<- Option.some.inj hbs];exact hl⟩ ha fun j hj=>?_
 obtain ⟨c1,c2⟩:=keep_cut (ver:=((x0 % most:Nat):Int)) ⟨by omega,by omega⟩ h2 h1 (by rw [<- z2] at z1;exact z1) t 0 j hj
 exact ⟨⟨by rw [List.length_take];omega,c1,fun bs hbs=>by rw [c2] at hbs;cases hbs⟩,c2⟩
theorem mxK_lim {sf:SFs} (hp:sPlainD sf=true) (h:decide (mxFs sf + TAIL + 2<=LIM)=true) (t:Tr) (ver:Int) (fx:Bool):(j3_ ver fx sf t).length<=LIM:=by
 have h1:=sPart_mx (ver:=ver) (fx:=fx) hp t
 have h2:=of_decide_eq_true h
 rw [keptB_len]
 omega
theorem lawK_of (RT:RefT P S) {hf:Bool} {flexN:Nat} {fs:Fds} {toff:Option Nat} {z:Array Value} {zv:Value} (M:KeptC P gErr S.tU8 hf flexN fs toff N.tM z N.fRd N.fAp) (hErr:∃ ms,P.underlying N.tE=some (.interface ms)) (hU:P.underlying S.tU16=some (.int .u16) \/ S.tU16=999999) (hm:N.most=(most:Int)) (hpos:0 < most)
  (hAg:FnIs P N.fA 11 [2,3] (cAgk S N)) (hNE:Ent P N.fN) (hNC:NwC P N.fN z) {n:Nat} (vM:VarIs P N.tM true n) (hn:z.size=n) (zM:∀ w,(zeroValue N.tM).run P w=.ok zv w) (hzs:zv.cells.size=n) (hone:∀ u ∈ z.toList,u.oneCell'=true)
  {ntSm:Nat} (hSm:S.fSame=999999 \/ FnIs P S.fSame ntSm [4] (cSame S.tSl S.tU8 S.tInt)) (hnSm:26<=ntSm) (h4:FnIs P S.fZ4 7 [2] (csZ4 S)) (h3:FnIs P S.fZ3 18 [2] (csZ3 S)) (h2:FnIs P S.fZ2 15 [2] (csZ2 S)) (hB:Ent P N.fB/\MsgBC P N.fB flex sf)
  (hWr:FnIs P S.fWrite 21 [6] (csWr S)) (hPE:Ent P S.fPart) (hPart:PartC P S sf) (hFx:FnIs P S.fFix 22 [4] (csFi S)) (hK:FnIs P N.fK 14 [6] (cKep S N)):LawK P S N gErr most flex sf (fun l=>againOut true hf flexN fs 0 l) (okInK hf flexN fs) where
 tab:=RT
 dU16:=hU
 m0:=hm
 mpos:=hpos
 zE:=h2.ent
 zC w k cs t ht:=z2_calls RT h4 h3 h2 w ht
 bE:=hB.1
 bC:=hB.2
 kE:=hK.ent
 kC W ver k cs t fv hfs ht hlim:=kep_calls RT hK hFx.ent (fun x _ w hk=>fix_calls RT hFx x hk w) hWr.ent (fun W hfs ht=>wr_calls RT hWr hPE hPart W hfs ht (by rw [keptB_len] at hlim;omega)) W hfs ht hlim
 aE:=hAg.ent
 aC:=agk_calls RT M hErr hAg hNE hNC vM hn zM hzs hone
 sE:=hSm.imp id fun h=>h.ent
 sC:=hSm.imp id fun h=>fun _ _ _ _ _ ha hb hla=>same_calls RT.mixed RT.oct RT.vU8 h hnSm ha hb hla
end
end Go.Proofs.YthjaecnbgfohmadDoor.Kx

namespace Go.Proofs.YthjaecnbgfohmadDoor.Kx
open Go
set_option maxRecDepth 4000
def leafLaw:Ty->Bool
 | .prim _=>true
 | .str _=>true
 | .bytes nul=>nul == none || nul == some 0
 | _=>false
def leafLaws:Fds->Bool
 | .nil=>true
 | .cons _ _ tag _ _ ty r=>tag.isNone && leafLaw ty && leafLaws r
theorem leafLaws_ok (ver:Int):∀ fs:Fds,leafLaws fs=true->lawFds false ver fs=true
 | .nil,_=>by simp only [lawFds]
 | .cons _ _ tag _ _ ty r,h=>by
  simp only [leafLaws,Bool.and_eq_true] at h
  simp only [lawFds,Bool.and_eq_true]
  refine ⟨⟨h.1.1,?_⟩,leafLaws_ok ver r h.2⟩
  cases ty with
  | prim _=>simp only [lawTy]
  | str _=>simp only [lawTy]
  | bytes _=>
   have h2:=h.1.2
   simp only [leafLaw] at h2
   simpa only [lawTy] using h2
  | list _ _ _=>cases h.1.2
  | struct _ _ _=>cases h.1.2
section
variable {flex:Nat} {fs:Fds}
theorem kept_go (h:leafLaws fs=true) (l:Bs) (hl:l.length<=BIG):xn_ false flex fs (j0_ true 0 (src0 l)).1 (j0_ true 0 (src0 l)).2 ≠ .stuck:=by
 have hm:lawMsg false flex fs (j0_ true 0 (src0 l)).1=true:=leafLaws_ok _ _ h
 refine (rw_msg hm).go _ ?_
 have:=(rI_spec 2 (src0 l)).1
 have e:(j0_ true 0 (src0 l)).2=(rI 2 (src0 l)).2:=rfl
 rw [e]
 exact Nat.le_trans this hl
theorem kept_same (h:leafLaws fs=true) {l bs:Bs} (hl:l.length<=1000) (hbs:againOut true false flex fs 0 l=some bs):bs.length<=1002/\againOut true false flex fs 0 bs=some bs:=by
 have hm:lawMsg false flex fs (j0_ true 0 (src0 l)).1=true:=leafLaws_ok _ _ h
 have hrg:=vread_range (kept:=true) (ver:=0) (r:=src0 l) ⟨by omega,by omega⟩
 have hle:(j0_ true 0 (src0 l)).2.src.length<=l.length:=(rI_spec 2 (src0 l)).1
 unfold againOut at hbs
 generalize j0_ true 0 (src0 l)=vr at hm hrg hle hbs
 cases hr:xn_ false flex fs vr.1 vr.2 with
 | stuck=>rw [hr] at hbs;cases hbs
 | err=>rw [hr] at hbs;cases hbs
 | ok v r=>
  rw [hr] at hbs
  simp only at hbs
  by_cases hb:r.bad=true
  ·rw [if_pos hb] at hbs;cases hbs
  ·rw [if_neg hb] at hbs
   have hb':r.bad=false:=by simpa using hb
   have hlen:=(rw_msg hm).len _ _ _ hr hb'
   have e:bs=be 2 vr.1++xg_ false false flex fs vr.1 v:=by rw [<- Option.some.inj hbs];simp [xg_]
   obtain ⟨v2,h2,h3⟩:=(rw_msg hm).again _ _ _ hr hb' [] false (fun hh=>by cases hh) (by simp only [BIG,List.append_nil];omega)
   rw [List.append_nil] at h2
   refine ⟨by rw [e,List.length_append,qw_];omega,?_⟩
   unfold againOut
   rw [e,keep_vread hrg 0]
   simp only [h2]
   rw [if_neg (by simp)]
   have e2:xg_ true false flex fs vr.1 v2=be 2 vr.1++xg_ false false flex fs vr.1 v2:=by simp [xg_]
   rw [e2,h3]
end
section
variable {P:Program} {S:SN} {N:KE} {gErr most:Nat} {flex:Int} {sf:SFs} {out:Bs->Option Bs} {okIn:Bs->Prop}
theorem lnk_calls (L:LawK P S N gErr most flex sf out okIn) (hS:S.fSame ≠ 999999) {f:Nat} (hfn:FnIs P f 45 [2] (cLnk S N)) {W:World} {srcv:Value} {l:Bs} (hsrc:SlRp W (fun _=>False) srcv l) (herr:ErrAt gErr W)
  (hz:(j3_ 0 (sFx flex 0) sf .zero).length<=LIM) (hzok:okIn (j3_ 0 (sFx flex 0) sf .zero)) (hzout:out (j3_ 0 (sFx flex 0) sf .zero)=some (j3_ 0 (sFx flex 0) sf .zero))
  (hok:l.length<=1000->okIn l/\∀ bs,out l=some bs->bs.length<=maxLen/\okIn bs/\out bs=some bs):Calls P f [srcv].toArray W (TrueC W):=by
 have T:=L.tab
 have hSE:=L.sE.resolve_left hS
 have hSC:=L.sC.resolve_left hS
 obtain ⟨base,c,hform,_⟩:=hsrc.form
 subst hform
 refine z9_ T.mixed hfn (by simp) _ (by simp) fun a h=>?_
 unfold cLnk
 refine qt_ (nrg (qd_ h .c (by omega) fun a h=>wpList_nil ?_))
 refine qt_ (qt_ (nrg (qi_ h (.t rfl) (by omega) fun a h=>xe_ h (.t rfl) T.oct.und (by omega) fun a h=>j5_ h rfl (.t rfl) .c (by omega) fun a h=>wpList_nil ?_)))
 refine jx_ h rfl (fun _=>qt_ (nrg (qd_ h .c (by omega) fun a h=>wpList_nil (.ret (true_ret h rfl rfl (Keeps.refl _ _)))))) (fun _=>.skip ?_)
 have h:St 45 a [(0,.slice base l.length c)]:=h.pick ⟨rfl,trivial⟩
 refine qt_ (qt_ (nrg (qi_ h (.t rfl) (by omega) fun a h=>xe_ h (.t rfl) T.oct.und (by omega) fun a h=>j5_ h rfl (.t rfl) .c (by omega) fun a h=>wpList_nil ?_)))
 refine jx_ h rfl (fun _=>qt_ (nrg (qd_ h .c (by omega) fun a h=>wpList_nil (.ret (true_ret h rfl rfl (Keeps.refl _ _)))))) (fun hb=>.skip ?_)
 have hl:l.length<=1000:=by simp only [zg_,decide_eq_false_iff_not] at hb;omega
 obtain ⟨hok1,hok2⟩:=hok hl
 have h:St 45 a [(0,.slice base l.length c)]:=h.pick ⟨rfl,trivial⟩
 refine qt_ (nrg (q7_ h L.bE (vs:=[]) (fun _ _ _=>rfl) (L.bC W) (by omega) fun e w1 hR=>?_))
 obtain ⟨fv,rfl,hfs,hk1⟩:=hR
 refine ⟨_,rfl,fun a h=>st_build h (qs:=#[]) (fun _ _ _=>by simp) (T.bT w1) (by omega) fun a h=>?_⟩
 refine q7_ h L.kE (vs:=[.agg [fv,.int .i64 flex].toArray,.int .i64 0,.agg [.int .i64 0,q2_,.bool false,q2_,q2_].toArray]) (fun n a h=>by
  simp only [List.map_cons,List.map_nil]
  rw [Hd.t (l:=_) (i:=16) rfl n a h,Hd.t (l:=_) (i:=17) rfl n a h]
  rfl) (L.kC w1 0 1 _ .zero fv hfs (TrRp.zero w1) hz) (by omega) fun e w2 hR=>?_
 obtain ⟨v,rfl,hd,hk2⟩:=hR
 have hv2:SlRp w2 (fun _=>False) v (j3_ 0 (sFx flex 0) sf .zero):=hd.sl
 generalize j3_ 0 (sFx flex 0) sf .zero=bz at hz hzok hzout hv2 hd
 refine ⟨_,rfl,fun a h=>q7_ h L.aE (vs:=[v]) (fun n a h=>by
  simp only [List.map_cons,List.map_nil]
  rw [Hd.t (l:=_) (i:=18) rfl n a h]) (L.aC w2 v bz hv2 (herr.keep (hk1.trans hk2) id) hzok) (by omega) fun e w3 hR=>?_⟩
 obtain ⟨y0,b0,rfl,hk3,_,hsome⟩:=hR
 obtain ⟨rfl,_⟩:=hsome bz hzout
 have hk03:=(hk1.trans hk2).trans hk3
 refine ⟨_,rfl,fun a h=>qi_ h (.t rfl) (by omega) fun a h=>zh_ h (.t rfl) rfl (by omega) fun a h=>zh_ h (.t rfl) rfl (by omega) fun a h=>qd_ h (.t rfl) (by omega) fun a h=>qd_ h (.t rfl) (by omega) fun a h=>wpList_nil ?_⟩
 have h:St 45 a [(0,.slice base l.length c),(4,.bool true)]:=h.pick ⟨rfl,rfl,trivial⟩
 refine qt_ (nrg (qi_ h (.t rfl) (by omega) fun a h=>q7_ h L.aE (vs:=[.slice base l.length c]) (fun n a h=>by
  simp only [List.map_cons,List.map_nil]
  rw [Hd.t (l:=_) (i:=23) rfl n a h]) (L.aC w3 _ l (hsrc.keep hk03) (herr.keep hk03 id) hok1) (by omega) fun e w4 hR=>?_))
 obtain ⟨y1,b1,rfl,hk4,hnone,hsome⟩:=hR
 have hk04:=hk03.trans hk4
 refine ⟨_,rfl,fun a h=>qi_ h (.t rfl) (by omega) fun a h=>zh_ h (.t rfl) rfl (by omega) fun a h=>zh_ h (.t rfl) rfl (by omega) fun a h=>qd_ h (.t rfl) (by omega) fun a h=>qd_ h (.t rfl) (by omega) fun a h=>wpList_nil ?_⟩
 have h:St 45 a [(4,.bool true),(5,y1),(6,.bool b1)]:=h.pick ⟨rfl,rfl,rfl,trivial⟩
 refine qt_ (qt_ (nrg (qi_ h (.t rfl) (by omega) fun a h=>st_not h (.t rfl) (by omega) fun a h=>qi_ h (.t rfl) (by omega) fun a h=>sg_move h rfl rfl rfl (by omega) (.t rfl) (by omega) fun a h=>?_)))
 refine st_gd h rfl rfl rfl (by omega) (v:=.bool (!b1)) (by
  have e:=Hd.t (l:=_) (i:=30) (v:=.bool b1) rfl _ a h
  simp [execOp,mk,e,Op.unary]) (by omega) fun a h=>?_
 refine zq_ h (.t rfl) .c (.t rfl) (by omega) fun a h=>wpList_nil ?_
 have h:St 45 a [(4,.bool true),(5,y1),(32,.bool (!b1))]:=h.pick ⟨rfl,rfl,rfl,trivial⟩
 cases hb:out l with
 | none=>
  obtain ⟨rfl,_⟩:=hnone hb
  refine jx_ h (b:=true) rfl (fun _=>?_) (fun hh=>by cases hh)
  exact qt_ (nrg (qi_ h (.t rfl) (by omega) fun a h=>qd_ h (.t rfl) (by omega) fun a h=>wpList_nil (.ret (true_ret h rfl rfl hk04))))
 | some bs=>
  obtain ⟨rfl,hy1⟩:=hsome bs hb
  obtain ⟨hbl,hokb,houtb⟩:=hok2 bs hb
  refine jx_ h (b:=false) rfl (fun hh=>by cases hh) (fun _=>.skip ?_)
  refine qt_ (nrg (qi_ h (.t rfl) (by omega) fun a h=>q7_ h L.aE (vs:=[y1]) (fun n a h=>by
   simp only [List.map_cons,List.map_nil]
   rw [Hd.t (l:=_) (i:=35) rfl n a h]) (L.aC w4 _ bs hy1 (herr.keep hk04 id) hokb) (by omega) fun e w5 hR=>?_))
  obtain ⟨y2,b2,rfl,hk5,_,hsome2⟩:=hR
  obtain ⟨rfl,hy2⟩:=hsome2 bs houtb
  have hk05:=hk04.trans hk5
  refine ⟨_,rfl,fun a h=>qi_ h (.t rfl) (by omega) fun a h=>zh_ h (.t rfl) rfl (by omega) fun a h=>zh_ h (.t rfl) rfl (by omega) fun a h=>qd_ h (.t rfl) (by omega) fun a h=>qd_ h (.t rfl) (by omega) fun a h=>wpList_nil ?_⟩
  have h:St 45 a [(5,y1),(7,y2),(8,.bool true)]:=h.pick ⟨rfl,rfl,rfl,trivial⟩
  refine qt_ (nrg (qi_ h (.t rfl) (by omega) fun a h=>qi_ h (.t rfl) (by omega) fun a h=>sg_move h rfl rfl rfl (by omega) (.t rfl) (by omega) fun a h=>sg_move h rfl rfl rfl (by omega) (.t rfl) (by omega) fun a h=>?_))
  refine sg_call (args:=[tm 41,tm 42]) (vs:=[y1,y2]) h rfl rfl rfl (by omega) hSE (fun n a h=>by
   simp only [List.map_cons,List.map_nil]
   rw [Hd.t (l:=_) (i:=41) rfl n a h,Hd.t (l:=_) (i:=42) rfl n a h]) (hSC w5 y1 y2 bs bs (hy1.keep hk5) hy2 hbl) (by omega) fun e w6 hR=>?_
  obtain ⟨rfl,hk6⟩:=hR
  refine ⟨_,rfl,fun a h=>zq_ h (.t rfl) (.t rfl) .c (by omega) fun a h=>qd_ h (.t rfl) (by omega) fun a h=>wpList_nil (.ret ?_)⟩
  exact true_ret h rfl (by simp) (hk05.trans hk6)
theorem anyK_law {flexN:Nat} {fs:Fds} (L:LawK P S N gErr most flex sf (fun l=>againOut true false flexN fs 0 l) (okInK false flexN fs)) (hfit:fitK false flexN most flex fs sf=true) (hlf:leafLaws fs=true) (hS:(S.fSame != 999999)=true) {f:Nat} (hfn:FnIs P f 45 [2] (cLnk S N)) {W:World} {srcv:Value} {l:Bs} (hsrc:SlRp W (fun _=>False) srcv l) (herr:ErrAt gErr W)
  (hlen:(j3_ 0 (sFx flex 0) sf .zero).length<=LIM):Calls P f [srcv].toArray W (TrueC W):=by
 obtain ⟨⟨h1,h2⟩,_,hm⟩:=fitK_at hfit (v:=0) L.mpos
 obtain ⟨ha,hg⟩:=keep_again (ver:=0) ⟨by omega,by omega⟩ h2 h1 .zero 0
 refine lnk_calls L (by simpa using hS) hfn hsrc herr hlen ⟨hlen,hg,fun bs hbs=>by
  have hbs':=ha.symm.trans hbs
  rw [<- Option.some.inj hbs'];exact hlen⟩ ha fun hl=>?_
 refine ⟨⟨by simp only [LIM];omega,kept_go hlf l (by simp only [BIG];omega),fun bs hbs=>?_⟩,fun bs hbs=>?_⟩
 ·have:=(kept_same hlf hl hbs).1
  simp only [LIM];omega
 ·obtain ⟨hb1,hb2⟩:=kept_same hlf hl hbs
  refine ⟨by simp only [maxLen];omega,⟨by simp only [LIM];omega,kept_go hlf bs (by simp only [BIG];omega),fun b2 hb=>?_⟩,hb2⟩
  have hb:againOut true false flexN fs 0 bs=some b2:=hb
  rw [hb2] at hb
  rw [<- Option.some.inj hb];simp only [LIM];omega
end
section
open Go.ChangeShapes Go.WideShapes Go.RowKit
variable {H:Type} {enc:TypeId × Value->H} {P:Program}
theorem row1 {f:FuncId} {fn:Func} {s:ChangeSpec} {tSl tU8 tB:TypeId} (hpar:fn.params.toList=[tSl]) (hres:fn.resultTypes=#[tB]) (hS:P.underlying tSl=some (.slice tU8)) (hE:P.underlying tU8=some (.int .u8)) (hc:P.cellsOf tU8=1) (hB:P.underlying tB=some .bool)
  (hv:s.vars=[]) (hs:∀ d1:DataW H,s.fn H [d1]={ results:=[.lit (.bool true)],args:=[d1] }) {W:World} {base:Nat} {args:Array Value} {ds gs:List (DataW H)} {before:List MemPlace}
  (hval:∀ (j:Nat) t v,fn.params[j]?=some t->args[j]?=some v->Value.okWide P W .any base t v) (hW:DataW.Whole enc P fn.params.toList s.vars false W args.toList ds gs before)
  (hcall:∀ (srcv:Value) (l:Bs),SlRp W (fun _=>False) srcv l->Calls P f [srcv].toArray W fun e w'=>e=.returned (.bool true)/\Keeps (fun _=>False) W w') :
  Calls P f args W fun e W'=>∃ v,e=.returned v/\s.post enc P fn false true false false W args v W':=by
 have hW':=hW
 obtain ⟨p,q,hA0,hV,rfl,hfz,hnd⟩:=hW
 have hA:DataW.TrodAll enc P W 0 (fun _=>true) true fn.params.toList args.toList ds p:=hA0
 have hpj:∀ j,fn.params[j]?=([tSl]:List TypeId)[j]?:=fun j=>by rw [<- hpar,Array.getElem?_toList]
 rw [hpar] at hA
 obtain ⟨v1,d1,rfl,rfl,h1⟩:=trodAll_one hA
 rw [hv] at hV
 obtain ⟨rfl,rfl⟩:=trodVars_none hV
 obtain ⟨l,hsl,hagain⟩:=arg_octs hS hE hc (hval 0 tSl v1 (by rw [hpj];rfl) rfl) h1
 refine (hcall v1 l hsl).mono fun e W' ⟨he,hk⟩=>?_
 subst he
 refine ⟨_,rfl,_,_,_,[],p,[],hW',?_,?_,?_,hk.butNone _,fun h=>by cases h⟩
 ·rw [hres]
  simp only [List.append_nil,hs]
  exact trodAll_mk1 (shut_bool hB true)
 ·rw [hpar]
  simp only [List.append_nil,hs]
  have:=trodAll_mk1 (hagain W' (fun b=>decide (b < W.heap.size)) hk fun x hx=>by
   have:=hW'.lt x (by simp [hx])
   simpa using this)
  simpa using this
 ·rw [hv]
  simp only [List.append_nil,hs]
  rfl
end
end Go.Proofs.YthjaecnbgfohmadDoor.Kx
