/-
  PLAIN LAWS AND CONTRACTS of messages, part 21.
-/
import Derived.Test.YtpoeajgpacfpoaaGreatDoorK16
import Derived.Test.YtpoeajgpacfpoaaGreatDoorK20
import Derived.Lib.ConvBytes

namespace Go.Proofs.YtpoeajgpacfpoaaGreatDoor.Kx
open Go
section
open Go
set_option maxRecDepth 4000
set_option maxHeartbeats 1000000
section
variable {P:Program} {S:SN} {N:FN}
theorem wG (T:FnT P S N)(hfn:FnIs P N.fZ1 7 [2] (cFZ1 S N))(has:Bool)(s:Bs)(w:World):Calls P N.fZ1 [.agg [.bool has,strV s].toArray].toArray w fun e w'=>e=.returned (.bool (decide (s.length<=2147483647)))/\ac (fun _=>False) w w':=by
 refine bJ T.tab.mixed hfn (by simp) _ (by simp) fun a h=>?_
 unfold cFZ1
 refine aw (aP (dx h (.t rfl) (by omega) fun a h=>ae h .c (by omega) fun a h=>wpList_nil ?_))
 have hk:ac (fun _=>False) w (w.alloc (.cells [Value.bool has,strV s].toArray N.tId (0,0))):=ac.alloc _ _ _
 have hc:=bB w [Value.bool has,strV s] N.tId
 generalize w.alloc (.cells [Value.bool has,strV s].toArray N.tId (0,0))=w1 at hk hc ⊢
 refine aw (aw (aP (bO h (.t rfl) T.i1 (by omega) fun a h=>aU h (.t rfl) T.i1.var (hc.at (j:=1) rfl) (by omega) fun a h=>?_)))
 refine qG h (v:=.int .i64 (s.length:Int)) (w':=w1) (by
  have e:=Hd.t (l:=_) (i:=4) rfl _ _ h
  have Ii:ByteArray.size ⟨s.toArray⟩=s.length:=List.size_toArray
  simp[execOp,bi,resolve,invoke,builtin,e,strV,Builtin.len_,run_underlying T.dStr,goInt,Ii]) (by omega) fun a h=>?_
 refine br h rfl (.t rfl) .i (by omega) fun a h=>wpList_nil ?_
 refine bn h rfl (fun hh=>?_) (fun hh=>.skip ?_)
 ·refine aw (aP (ae h .c (by omega) fun a h=>wpList_nil (.ret ?_)))
  have hn:¬ s.length<=2147483647:=by simp[aW]at hh;omega
  exact dN (RR:=fun e w'=>e=.returned (.bool (decide (s.length<=2147483647)))/\ac (fun _=>False) w w') h rfl ⟨by rw[decide_eq_false hn],hk⟩
 ·refine aw (aP (ae h .c (by omega) fun a h=>wpList_nil (.ret ?_)))
  have hn:s.length<=2147483647:=by simp[aW]at hh;omega
  exact dN (RR:=fun e w'=>e=.returned (.bool (decide (s.length<=2147483647)))/\ac (fun _=>False) w w') h rfl ⟨by rw[decide_eq_true hn],hk⟩
theorem yQ {hf:Bool}{flex:Nat}{fs:Fds}{toff:Option Nat}{gErr Tm:Nat}{z:Array Value}(T:FnT P S N)(H:FrW P S N hf flex fs toff)(G:FrF P S N)(M:MsgC P gErr S.tU8 false hf flex fs toff Tm z N.fNp N.fSv N.fRf N.fAt){ms:Array (String × TypeId)}(Q9:P.underlying N.tErr=some (.interface ms))
  (hfn:FnIs P N.fFM 25 [8,9] (cFFM S N)) {W:World} {ver number:Int} {has:Bool} {srcv:Value} {s l:Bs} {v:V} {r:RS} (hver:-32768<=ver/\ver<32768) (J3:ci W (fun _=>False) srcv l) (herr:ErrAt gErr W) (Lt:lm hf flex fs ver (xp l)=.ok v r) (IA:r.bad=false) (IR:dD false hf flex fs ver v=l)
  (hlim:s.length+l.length+100<=di) :
  Calls P N.fFM [.agg [.bool has,strV s].toArray,.int .i32 number,.int .i16 ver,srcv].toArray W fun e w'=>∃ y,e=.returned (.tuple #[y,.bool true])/\ci w' (fun _=>False) y (ry ver number has s l)/\ac (fun _=>False) W w':=by
 have VN:gErr<W.heap.size:=by obtain⟨_,_,h⟩:=herr;exact bP h
 have ot:=T.tab.oct
 refine bJ T.tab.mixed hfn (by simp) _ (by simp) fun a h=>?_
 unfold cFFM
 refine aw (aP (dx h (.t rfl) (by omega) fun a h=>ae h .c (by omega) fun a h=>ae h .c (by omega) fun a h=>wpList_nil ?_))
 have hk:ac (fun _=>False) W (W.alloc (.cells [Value.bool has,strV s].toArray N.tId (0,0))):=ac.alloc _ _ _
 have hc:=bB W [Value.bool has,strV s] N.tId
 have X5:W.heap.size<(W.alloc (.cells [Value.bool has,strV s].toArray N.tId (0,0))).heap.size:=bP (lC W [Value.bool has,strV s] N.tId (o:=0) rfl)
 generalize W.alloc (.cells [Value.bool has,strV s].toArray N.tId (0,0))=w1 at hk hc X5 ⊢
 refine aw (aP (aT h M.newE (vs:=[]) (fun _ _ _=>rfl) (M.newC w1) (by omega) fun e w2 hR=>?_))
 obtain⟨rfl,Ic,IK⟩:=hR
 refine⟨_,rfl,fun a h=>ae h (.t rfl) (by omega) fun a h=>wpList_nil ?_⟩
 have KL:w1.heap.size<w2.heap.size:=(Array.getElem?_eq_some_iff.1 IK).1
 generalize hBe:w1.heap.size=B at IK KL h X5
 refine aw (aP (ai h (.t rfl) (by omega) fun a h=>ai h (.t rfl) (by omega) fun a h=>aT h M.setE (vs:=[pt B 0,.int .i16 ver]) (fun n a h=>by simp[Hd.t (l:=_) (i:=12) rfl _ _ h,Hd.t (l:=_) (i:=13) rfl _ _ h]) (M.setC w2 B z ver IK M.zpos) (by omega) fun e w3 hR=>?_))
 obtain⟨rfl,Il,LL⟩:=hR
 refine⟨_,rfl,fun a h=>wpList_nil ?_⟩
 have Qc:ac (fun _=>False) w1 w3:=by
  have:ac (fun k=>B<=k) w1 w3:=(Ic.mono fun _ _ h=>h.elim).trans (Il.mono fun k _ hk=>by omega)
  exact this.mono fun k hk hX=>by omega
 have Jx:ac (fun _=>False) W w3:=hk.trans Qc
 have P1:=Il.size
 have hc:=au.kn Qc hc
 have OZ:ci w3 (fun _=>False) srcv l:=J3.keep Jx
 have MB:ErrAt gErr w3:=herr.keep Jx id
 have SG:∃ d' w4 Sx,(Builtin.append_ #[S.tSl,S.tSl] S.tSl #[aF,srcv]).run P w3=.ok d' w4/\bD w4 Sx d' (xp l)/\ac (fun _=>False) w3 w4/\Sx<w4.heap.size/\Sx≠B:=by
  by_cases Pi:l=[]
  ·subst Pi
   have hS:Src P 1 S.tSl srcv 0 [] w3:=by
    rcases OZ with⟨rfl,_⟩|⟨b,o,c,rfl,_,_,_,_,ho⟩
    ·exact p9 ot w3 0
    ·exact ic ot ho
   exact⟨aF,w3,gErr,jm ot hS,.inl ⟨rfl,rfl,rfl⟩,ac.refl _ _,by omega,by omega⟩
  ·have hS:Src P 1 S.tSl srcv l.length (l.map aJ) w3:=by
    rcases OZ with⟨rfl,rfl⟩|⟨b,o,c,rfl,_,_,_,_,ho⟩
    ·exact absurd rfl Pi
    ·exact ic ot ho
   obtain⟨d',w4,hr,hg⟩:=fh (L:=w3.heap.size) (ty:=S.tSl) ot (aA.nil w3 w3.heap.size S.tU8) hS (Nat.le_refl _) (by simp only[List.length_nil];omega)
   rw[List.nil_append]at hg
   have It:ac (fun _=>False) w3 w4:=hg.keeps.mono fun k _ hk=>by simp[Value.ownBlock]at hk
   rcases hg.dst with⟨_,h⟩|⟨gg,c,cur,rfl,hL,No,hn,hc,Ii,IP⟩
   ·exact absurd h Pi
   ·have Id:gg<w4.heap.size:=(Array.getElem?_eq_some_iff.1 No).1
    refine⟨_,w4,gg,hr,.inr ⟨0,c,rfl,by cases l with|nil=>exact absurd rfl Pi|cons _ _=>rfl,hn,hc,Id,fun i y hi=>?_⟩,It,Id,by omega⟩
    rw[Nat.zero_add]
    simp[World.cell?,No,IP i y hi,aJ]
 obtain⟨d',w4,Sx,Im,TZ,It,Q6,hSB⟩:=SG
 have WK:=It.size
 have QT:w4.heap[B]?=some (.cells (z.setIfInBounds 0 (.int .i16 ver)) Tm (0,0)):=by rw[It.block B (by omega) id];exact LL
 have Rv:=M.rdC w4 B Sx ver d' (xp l) QT TZ rfl (MB.keep It id) Q6 (by omega) (by omega) (by simp only[gY,Bool.false_eq_true,if_false];rw[Lt];intro hh;cases hh)
 simp only[gY,Bool.false_eq_true,if_false,Lt]at Rv
 refine aw (aw (aP (ai h (.t rfl) (by omega) fun a h=>ai h (.t rfl) (by omega) fun a h=>?_)))
 refine qG h (v:=d') (w':=w4) (by
  have e:=Hd.t (l:=_) (i:=16) rfl _ _ h
  simp[execOp,bi,resolve,invoke,builtin,e,dg,Im]) (by omega) fun a h=>?_
 refine aT h M.rdE (vs:=[pt B 0,d']) (fun n a h=>by simp[Hd.t (l:=_) (i:=15) rfl _ _ h,Hd.t (l:=_) (i:=17) rfl _ _ h]) Rv (by omega) fun e w5 hR=>?_
 obtain⟨x,rfl,Jc,hx,_,vs,t,cur,rfl,X1,hcsz,Ln,IV,hft⟩:=hR
 obtain rfl:=hx IA
 refine⟨_,rfl,fun a h=>?_⟩
 refine wS (b:=false) Q9 (Hd.t (l:=_) (i:=18) rfl _ _ h) (.inl ⟨rfl,rfl⟩) ?_
 have h:=h.put (d:=19) (.bool false) (by omega)
 generalize a.put (some 19) (.bool false)=a at h ⊢
 refine wpList_nil (bn h rfl (fun hh=>by cases hh) fun _=>.skip ?_)
 have ND:ac (fun _=>False) W w5:=by
  have:ac (fun k=>B<=k) W w5:=((Jx.trans It).mono fun _ _ h=>h.elim).trans (Jc.mono fun k _ hk=>by omega)
  exact this.mono fun k hk hX=>by omega
 have Qy:au w5 W.heap.size 0 [Value.bool has,strV s]:=fun j c hj=>by
  have:=au.kn It hc j c hj
  rw[bF (Jc.block W.heap.size (by have:=Qc.size;omega) (by omega))]
  exact this
 have hlt5:B<w5.heap.size:=(Array.getElem?_eq_some_iff.1 X1).1
 have Ia:w5.cell? ⟨B,0,none⟩=some (.int .i16 ver):=by simp[World.cell?,X1,Ln]
 have hrp:RpF w5 (fun k=>w5.heap.size<=k) fs B 0 vs:=RpF.mono (fun k hk hX=>by omega) fs B 0 vs (IV (fun _=>False) (fun _ h=>h.elim) id)
 have IW:dJ w5 (fun k=>w5.heap.size<=k) B 0 toff t:=(hft (fun _=>False) (fun _ h=>h.elim) id).mono fun k hk hX=>by omega
 refine aw (aP (cn h (cs:=[.bool has,strV s]) (.t rfl) T.vId Qy (by omega) fun a h=>ai h (.t rfl) (by omega) fun a h=>?_))
 refine nx h (v:=.iface N.tM (pt B 0)) (w':=w5) (by
  have e:=Hd.t (l:=_) (i:=21) rfl _ _ h
  simp[execOp,mk,e,T.miM]) (by omega) fun a h=>ai h (.t rfl) (by omega) fun a h=>?_
 refine aT h G.frd.ent (vs:=[aF,.agg [.bool has,strV s].toArray,.iface N.tM (pt B 0),.int .i32 number]) (fun n a h=>by
   simp[Hd.t (l:=_) (i:=20) rfl _ _ h,Hd.t (l:=_) (i:=22) rfl _ _ h,Hd.t (l:=_) (i:=23) rfl _ _ h,dg])
  (qm T H G hver Ia hrp IW IR hlim) (by omega) fun e w6 hR=>?_
 obtain⟨y,rfl,hy,Lc⟩:=hR
 refine⟨_,rfl,fun a h=>ae h (.t rfl) (by omega) fun a h=>ae h .c (by omega) fun a h=>wpList_nil (.ret ?_)⟩
 exact AP (RR:=fun e w'=>∃ y,e=.returned (.tuple #[y,.bool true])/\ci w' (fun _=>False) y (ry ver number has s l)/\ac (fun _=>False) W w') h rfl rfl ⟨y,rfl,hy.sl,ND.trans Lc⟩
end
end
section
open Go
set_option maxRecDepth 4000
theorem HF {P:Program}{l':List Oper}{R:Exit->Act->World->Prop}{a:Act}{w:World}(loud:List Bool)(I:World->Prop)(hl:nQ l'=loud)(h:eT P I (cR l' loud) a (fun af=>eg P I R (bZ l' loud) af w.drew)):aK P (.region 6 l'.toArray true) R a w:=.drc I (by rw[hl];exact h)
theorem r8 (w:World)(e:Nat)(s:ByteArray):ac (fun _=>False) w (Lib.bytesWorld w e s):=
 ⟨rfl,rfl,rfl,by rw[Lib.bytesWorld_size];omega,fun k hk _=>Lib.bytesWorld_at_old w e s k hk⟩
theorem zb (w:World)(e:Nat)(s:Bs)(h:s.length<=2147483647):ci (Lib.bytesWorld w e ⟨s.toArray⟩) (fun _=>False) (.slice (some ⟨w.heap.size,0,none⟩) s.length (grownCap w s.length 0 e)) s:=by
 refine .inr ⟨w.heap.size,0,_,rfl,id,by rw[Lib.bytesWorld_size];omega,grownCap_ge w s.length 0 e,grownCap_le_maxLen w _ 0 e (by simp only[maxLen];omega),fun i x hi=>?_⟩
 have hl:i<s.length:=(List.getElem?_eq_some_iff.1 hi).1
 have Ii:ByteArray.size ⟨s.toArray⟩=s.length:=List.size_toArray
 have:=Lib.bytesWorld_cell w e ⟨s.toArray⟩ i (by rw[Ii];exact hl)
 rw[Nat.zero_add,this]
 have e1:(⟨s.toArray⟩:ByteArray).data.toList.getD i 0=x:=by
  rw[List.getD_eq_getElem?_getD]
  simp[hi]
 rw[e1]
section
variable {P:Program} {S:SN} {N:FN}
theorem yI (T:FnT P S N)(hfn:FnIs P N.fId 11 [2,3] (cFId S N))(has:Bool)(s:Bs)(hs:s.length<=2147483647)(W:World) :
  Calls P N.fId [.agg [.bool has,strV s].toArray].toArray W fun e w'=>∃ v,e=.returned (.tuple #[v,.bool (decide (s.length<=32767))])/\ci w' (fun _=>False) v s/\ac (fun _=>False) W w':=by
 have Ii:ByteArray.size ⟨s.toArray⟩=s.length:=List.size_toArray
 refine bJ T.tab.mixed hfn (by simp) _ (by simp) fun a h=>?_
 unfold cFId
 refine aw (aP (dx h (.t rfl) (by omega) fun a h=>ae h .c (by omega) fun a h=>ae h .c (by omega) fun a h=>wpList_nil ?_))
 have hk:ac (fun _=>False) W (W.alloc (.cells [Value.bool has,strV s].toArray N.tId (0,0))):=ac.alloc _ _ _
 have hc:=bB W [Value.bool has,strV s] N.tId
 generalize W.alloc (.cells [Value.bool has,strV s].toArray N.tId (0,0))=w1 at hk hc ⊢
 refine aw (HF [false,false,true,false,false,false,false,true,true] (fun w'=>ac (fun _=>False) w1 w') (by kernel_rfl) ?_)
 show eT P _ [mk (some 4) (.fieldAddr N.tId (tm 1) 1),mk (some 5) (.load N.tStr (tm 4)),mk (some 7) (.fieldAddr N.tId (tm 1) 1),mk (some 8) (.load N.tStr (tm 7)),bi (some 9) .len [(tm 8)] [N.tStr] S.tInt,mk (some 10) (.binOp .leq S.tInt (tm 9) (ki .i64 32767) 0)] a
  fun af=>eg P _ _ [mk (some 6) (.convert N.tStr S.tSl (tm 5)),mk (some 2) (.assign (tm 6)),mk (some 3) (.assign (tm 10))] af w1.drew
 refine lP h (.t rfl) T.i1 (by omega) fun a h=>iF h (.t rfl) T.i1.var (fun w hw=>ac.cell hw id (hc.at (j:=1) rfl)) (by omega) fun a h=>lP h (.t rfl) T.i1 (by omega) fun a h=>iF h (.t rfl) T.i1.var (fun w hw=>ac.cell hw id (hc.at (j:=1) rfl)) (by omega) fun a h=>?_
 refine⟨.int .i64 (s.length:Int),fun w _=>?_,?_⟩
 ·have e:=Hd.t (l:=_) (i:=8) rfl _ _ h
  simp[execOp,bi,resolve,invoke,builtin,e,strV,Builtin.len_,run_underlying T.dStr,goInt,Ii]
 have h:=h.put (d:=9) (.int .i64 (s.length:Int)) (by omega)
 show eT P _ _ (a.put (some 9) (.int .i64 (s.length:Int))) _
 generalize a.put (some 9) (.int .i64 (s.length:Int))=a at h ⊢
 refine oh (k:=.i64) (k2:=.i64) (m:=(s.length:Int)) (m2:=32767) (v:=.bool (decide (s.length<=32767))) (Hd.t (i:=9) rfl _ _ h) (by simp[dg,ki]) (fun w=>?_) ?_
 ·rw[show decide (s.length<=32767)=aW .leq (s.length:Int) 32767 from decide_eq_decide.2 (by omega)]
  exact ik (mQ rfl _ _)
 have h:=h.put (d:=10) (.bool (decide (s.length<=32767))) (by omega)
 show eg P _ _ _ (a.put (some 10) (.bool (decide (s.length<=32767)))) _
 generalize a.put (some 10) (.bool (decide (s.length<=32767)))=a at h ⊢
 have Mg:ac (fun _=>False) w1 w1.drew:=ac.drew _ _
 refine⟨Mg,?_⟩
 unfold Oper.wp
 have hx:(execOp a.eval (mk (some 6) (.convert N.tStr S.tSl (tm 5)))).run P w1.drew=.ok (.value (.slice (some ⟨w1.drew.heap.size,0,none⟩) s.length (grownCap w1.drew s.length 0 S.tU8))) (Lib.bytesWorld w1.drew S.tU8 ⟨s.toArray⟩):=by
  have e:=Hd.t (l:=_) (i:=5) rfl _ _ h
  have hr:=Lib.run_convert_string_bytes (P:=P) w1.drew N.tStr S.tSl S.tU8 ⟨s.toArray⟩ T.dStr T.tab.oct.und T.tab.dU8
  rw[Ii]at hr
  simp[execOp,mk,e,strV,hr]
 rw[hx]
 have Qa:=Mg.trans (r8 w1.drew S.tU8 ⟨s.toArray⟩)
 have Iu:=zb w1.drew S.tU8 s hs
 generalize Lib.bytesWorld w1.drew S.tU8 ⟨s.toArray⟩=w2 at Qa Iu ⊢
 generalize Value.slice (some ⟨w1.drew.heap.size,0,none⟩) s.length (grownCap w1.drew s.length 0 S.tU8)=v at Iu ⊢
 have h:=h.put (d:=6) v (by omega)
 show eg P _ _ _ (a.put (some 6) v) w2
 generalize a.put (some 6) v=a at h ⊢
 refine f9 h Qa (.t rfl) (by omega) fun a h=>f9 h Qa (.t rfl) (by omega) fun a h=>ku Qa (.ret ?_)
 exact AP (RR:=fun e w'=>∃ v,e=.returned (.tuple #[v,.bool (decide (s.length<=32767))])/\ci w' (fun _=>False) v s/\ac (fun _=>False) W w') h rfl rfl ⟨v,rfl,Iu,hk.trans Qa⟩
end
end
section
open Go
set_option maxRecDepth 4000
set_option maxHeartbeats 1000000
structure LawF (P:Program)(S:SN)(N:FN)(most:Nat)(flex:Int)(sf:SFs):Prop where
 zE:Ent P S.fZ2
 zC:∀ (w:World) (k:Nat) (cs:List Value) (t:Tr),TrRp w k cs t->AI P S.fZ2 [.agg cs.toArray] w
 mE:Ent P N.fMax
 mC:∀ w,Calls P N.fMax ([]:List Value).toArray w fun e w'=>e=.returned (.int .i64 (most:Int))/\ac (fun _=>False) w w'
 bE:Ent P N.fMsg
 bC:MsgBC P N.fMsg flex sf
 vE:Ent P N.fVer
 vC:∀ (x:Nat) (w:World),x<256->Calls P N.fVer [.int .u8 (x:Int),.int .i64 (most:Int)].toArray w fun e w'=>e=.returned (.int .i64 ((x%(most+1):Nat):Int))/\ac (fun _=>False) w w'
 wE:Ent P S.fWrite
 wC:∀ (W:World) (ver:Int) (k:Nat) (cs:List Value) (t:Tr) (fv:Value),fu W sf fv->TrRp W k cs t->(bh ver (rJ flex ver) sf t).length<=di->Calls P S.fWrite [.agg [fv,.int .i64 flex].toArray,.int .i64 ver,.agg cs.toArray].toArray W (aZ S.tU8 (bh ver (rJ flex ver) sf t) W)
 sE:Ent P S.fSame
 sC:∀ (w:World) (va vb:Value) (la lb:Bs),ci w (fun _=>False) va la->ci w (fun _=>False) vb lb->la.length<=maxLen->Calls P S.fSame [va,vb].toArray w fun e w'=>e=.returned (.bool (decide (la=lb)))/\ac (fun _=>False) w w'
section
variable {P:Program} {S:SN} {N:FN} {most:Nat} {flex:Int} {sf:SFs}
section
variable {ops:Array Oper} {Q:Exit->Act->World->Prop} {r:List Oper} {n:Nat} {a:Act} {w:World} {l:List (Nat × Value)}
theorem xu (h:St n a l){d j jd:Nat}{b:Bool}{o:Oper}{x:Operand}{F B O:Nat}{cs:List Value}(ho:ops[j]?=some o)(JN:o.dst=some jd)(hj:l.lookup jd=some (.bool b))(JQ:jd<n)(hx:Hd l x (pt B O))(hF:bc P F true cs.length)(hv:au w B O cs)(hd:d<n)
  (c:∀ a',St n a' ((d,.agg cs.toArray)::l)->wpList P ops Q r a' w):wpList P ops Q (gd d (.load F x) j b::r) a w:=by
 refine ld h ho JN hj JQ ?_ hd c
 have hl:=run_loadCells_list (P:=P) w ⟨B,O,none⟩ cs (fun j v hj=>by rw[Addr.add_lit];exact hv j v hj)
 have e:=hx n a h
 simp only[pt]at e
 simp[execOp,mk,e,Instr.loadAt,Instr.sureAddr,loadVar,hF.agg w,hF.size w,hl]
theorem BF (h:St n a l){d j jd:Nat}{b p:Bool}{o:Oper}{x:Operand}{T:Nat}(ho:ops[j]?=some o)(JN:o.dst=some jd)(hj:l.lookup jd=some (.bool b))(JQ:jd<n)(hx:Hd l x (.bool p))(hd:d<n)
  (c:∀ a',St n a' ((d,.bool !p)::l)->wpList P ops Q r a' w):wpList P ops Q (gd d (.unOp .not T x) j b::r) a w:=by
 refine ld h ho JN hj JQ ?_ hd c
 simp[execOp,mk,hx n a h,Op.unary]
theorem zW (h:St n a l){d j jd:Nat}{b:Bool}{o:Oper}{x:Operand}{A B:Nat}{k k':IntKind}{m:Int}(ho:ops[j]?=some o)(JN:o.dst=some jd)(hj:l.lookup jd=some (.bool b))(JQ:jd<n)(hx:Hd l x (.int k m))(hA:P.underlying A=some (.int k))(hB:P.underlying B=some (.int k'))(hd:d<n)
  (c:∀ a',St n a' ((d,.int k' (k'.wrap m))::l)->wpList P ops Q r a' w):wpList P ops Q (gd d (.convert A B x) j b::r) a w:=by
 refine ld h ho JN hj JQ ?_ hd c
 simp[execOp,mk,hx n a h,convert,run_underlying hA,run_underlying hB,Conv.intToInt]
end
theorem vP (T:FnT P S N)(L:LawF P S N most flex sf){W w:World}{ver number:Int}{has is:Bool}{B:Nat}{vi vb y:Value}{s body:Bs}{a:Act}{Q:Exit->Act->World->Prop}(hver:0<=ver/\ver<32768)(hW:ac (fun _=>False) W w)(hc:au w B 0 [.bool has,strV s])
  (VE:∀ w vs vb,ci w (fun _=>False) vs s->ci w (fun _=>False) vb body->Calls P N.fFr [.int .i16 3,.int .i16 ver,.int .i32 number,.bool has,vs,vb].toArray w (aZ S.tU8 (ry ver number has s body) w)) (Ih:(ry ver number has s body).length<=maxLen) (hE:Ent P N.fFr)
  (hy:ci w (fun _=>False) y (ry ver number has s body)) (Ut:ci w (fun _=>False) vi s) (hvb:ci w (fun _=>False) vb body)
  (h:St 65 a [(2,.int .i32 number),(5,pt B 0),(9,vi),(10,.bool is),(12,.int .i64 ver),(13,vb),(14,y),(15,.bool true)])
  (hQ:∀ a w l,St 65 a ((8,.bool true)::l)->ac (fun _=>False) W w->Q .normal a w):aK P (rg (u7 S N)) Q a w:=by
 have hw:IntKind.i16.wrap ver=ver:=by simp[IntKind.wrap,IntKind.bits,IntKind.signed];omega
 refine aP (ai h (.t rfl) (by omega) fun a h=>nr h (.t rfl) (by omega) fun a h=>ai h (.t rfl) (by omega) fun a h=>?_)
 cases is with
 | false=>
  refine aM h rfl rfl rfl (by omega) (by simp) (by omega) fun a h=>aM h rfl rfl rfl (by omega) (by simp) (by omega) fun a h=>?_
  refine dQ h rfl rfl rfl (by omega) (by omega) fun a h=>dQ h rfl rfl rfl (by omega) (by omega) fun a h=>dQ h rfl rfl rfl (by omega) (by omega) fun a h=>dQ h rfl rfl rfl (by omega) (by omega) fun a h=>dQ h rfl rfl rfl (by omega) (by omega) fun a h=>?_
  refine dQ h rfl rfl rfl (by omega) (by omega) fun a h=>dQ h rfl rfl rfl (by omega) (by omega) fun a h=>dQ h rfl rfl rfl (by omega) (by omega) fun a h=>dQ h rfl rfl rfl (by omega) (by omega) fun a h=>dQ h rfl rfl rfl (by omega) (by omega) fun a h=>?_
  refine aM h rfl rfl rfl (by omega) (by simp) (by omega) fun a h=>cr h (.t rfl) .c (.t rfl) (by omega) fun a h=>ae h (.t rfl) (by omega) fun a h=>wpList_nil (hQ a w _ h hW)
 | true=>
  refine ek h rfl rfl rfl (by omega) (.t rfl) (by omega) fun a h=>ek h rfl rfl rfl (by omega) (.t rfl) (by omega) fun a h=>?_
  refine ek h rfl rfl rfl (by omega) (.t rfl) (by omega) fun a h=>ek h rfl rfl rfl (by omega) (.t rfl) (by omega) fun a h=>zW h rfl rfl rfl (by omega) (.t rfl) T.tab.dInt T.dI16 (by omega) fun a h=>?_
  rw[hw]at h
  refine ek h rfl rfl rfl (by omega) (.t rfl) (by omega) fun a h=>kv h rfl rfl rfl (by omega) (.t rfl) T.i0 (by omega) fun a h=>gH h rfl rfl rfl (by omega) (.t rfl) T.i0.var (hc.at (j:=0) rfl) (by omega) fun a h=>ek h rfl rfl rfl (by omega) (.t rfl) (by omega) fun a h=>ek h rfl rfl rfl (by omega) (.t rfl) (by omega) fun a h=>?_
  refine mK (args:=[ki .i16 3,tm 55,tm 56,tm 58,tm 59,tm 60]) (vs:=[.int .i16 3,.int .i16 ver,.int .i32 number,.bool has,vi,vb]) h rfl rfl rfl (by omega) hE (fun n a h=>by
   simp only[List.map_cons,List.map_nil]
   rw[Hd.t (l:=_) (i:=55) rfl n a h,Hd.t (l:=_) (i:=56) rfl n a h,Hd.t (l:=_) (i:=58) rfl n a h,Hd.t (l:=_) (i:=59) rfl n a h,Hd.t (l:=_) (i:=60) rfl n a h]
   rfl) (VE w vi vb Ut hvb) (by omega) fun e w2 hR=>?_
  obtain⟨v,rfl,hv,Ic⟩:=hR
  refine⟨_,rfl,fun a h=>?_⟩
  refine mK (args:=[tm 53,tm 61]) (vs:=[y,v]) h rfl rfl rfl (by omega) L.sE (fun n a h=>by
   simp only[List.map_cons,List.map_nil]
   rw[Hd.t (l:=_) (i:=53) rfl n a h,Hd.t (l:=_) (i:=61) rfl n a h]) (L.sC w2 y v _ _ (hy.keep Ic) hv.sl Ih) (by omega) fun e w3 hR=>?_
  obtain⟨rfl,Il⟩:=hR
  refine⟨_,rfl,fun a h=>?_⟩
  rw[decide_eq_true (rfl:ry ver number has s body=ry ver number has s body)]at h
  refine pB h rfl rfl rfl (by omega) (.t rfl) (.t rfl) .c (by omega) fun a h=>cr h (.t rfl) .c (.t rfl) (by omega) fun a h=>ae h (.t rfl) (by omega) fun a h=>wpList_nil (hQ a w3 _ h ((hW.trans Ic).trans Il))
theorem sV (T:FnT P S N)(L:LawF P S N most flex sf){gErr:Nat}(QE:FnIs P N.fZ1 7 [2] (cFZ1 S N))(TJ:FnIs P N.fId 11 [2,3] (cFId S N))(hEM:Ent P N.fFM)(hEF:Ent P N.fFr){f:Nat}(hfn:FnIs P f 65 [8] (cFLaw S N))(JA:most<32768){x0:Nat}(hx:x0<256){W:World}{k:Nat}{number:Int}{has:Bool}{s body:Bs}{cs:List Value}{t:Tr}(ht:TrRp W k cs t)(herr:ErrAt gErr W)
  {ver:Int} (hver:ver=((x0%(most+1):Nat):Int)) (ID:bh ver (rJ flex ver) sf t=body) (Ib:body.length<=di) (Ih:s.length<=2147483647->(ry ver number has s body).length<=maxLen)
  (Ue:∀ w srcv,s.length<=2147483647->ci w (fun _=>False) srcv body->ErrAt gErr w->Calls P N.fFM [.agg [.bool has,strV s].toArray,.int .i32 number,.int .i16 ver,srcv].toArray w fun e w'=>∃ y,e=.returned (.tuple #[y,.bool true])/\ci w' (fun _=>False) y (ry ver number has s body)/\ac (fun _=>False) w w')
  (VE:∀ w vs vb,s.length<=2147483647->ci w (fun _=>False) vs s->ci w (fun _=>False) vb body->Calls P N.fFr [.int .i16 3,.int .i16 ver,.int .i32 number,.bool has,vs,vb].toArray w (aZ S.tU8 (ry ver number has s body) w)) :
  Calls P f [.int .u8 (x0:Int),.agg [.bool has,strV s].toArray,.int .i32 number,.agg cs.toArray].toArray W (TrueC W):=by
 have M6:=ht.len
 have Lp:x0%(most+1)<=most:=by have:=Nat.mod_lt x0 (show 0<most+1 by omega);omega
 have WP:0<=ver/\ver<32768:=by omega
 have hw:IntKind.i16.wrap ver=ver:=by simp[IntKind.wrap,IntKind.bits,IntKind.signed];omega
 refine bJ T.tab.mixed hfn (by simp) _ (by simp) fun a h=>?_
 unfold cFLaw
 have Ir:ac (fun _=>False) W (W.alloc (.cells [Value.bool has,strV s].toArray N.tId (0,0))):=ac.alloc _ _ _
 have Sj:=bB W [Value.bool has,strV s] N.tId
 refine aw (aP (dx h (cs:=[.bool has,strV s]) (.t rfl) (by omega) fun a h=>?_))
 generalize hB:W.heap.size=B at Sj h
 generalize W.alloc (.cells [Value.bool has,strV s].toArray N.tId (0,0))=w1 at Ir Sj ⊢
 have Ic:ac (fun _=>False) w1 (w1.alloc (.cells cs.toArray S.tT (0,0))):=ac.alloc _ _ _
 have Jq:=bB w1 cs S.tT
 refine dx h (cs:=cs) (.t rfl) (by omega) fun a h=>ae h .c (by omega) fun a h=>wpList_nil ?_
 generalize KL:w1.heap.size=B2 at Jq h
 generalize w1.alloc (.cells cs.toArray S.tT (0,0))=w2 at Ic Jq ⊢
 have NG:=au.kn Ic Sj
 have hk:=Ir.trans Ic
 refine aw (aw (aP (cn h (cs:=[.bool has,strV s]) (.t rfl) T.vId NG (by omega) fun a h=>aT h QE.ent (vs:=[.agg [.bool has,strV s].toArray]) (fun n a h=>by
  simp only[List.map_cons,List.map_nil]
  rw[Hd.t (l:=_) (i:=16) rfl n a h]) (wG T QE has s w2) (by omega) fun e w3 hR=>?_)))
 obtain⟨rfl,Il⟩:=hR
 refine⟨_,rfl,fun a h=>nr h (.t rfl) (by omega) fun a h=>ai h (.t rfl) (by omega) fun a h=>?_⟩
 have hk:=hk.trans Il
 by_cases hs:s.length<=2147483647
 case neg=>
  rw[decide_eq_false hs]at h
  refine aM h rfl rfl rfl (by omega) (by simp) (by omega) fun a h=>aM h rfl rfl rfl (by omega) (by simp) (by omega) fun a h=>aM h rfl rfl rfl (by omega) (by simp) (by omega) fun a h=>cr h (.t rfl) .c (.t rfl) (by omega) fun a h=>wpList_nil ?_
  exact bn h rfl (fun _=>aw (aP (ae h .c (by omega) fun a h=>wpList_nil (.ret (nj h rfl rfl hk))))) (fun hh=>by cases hh)
 rw[decide_eq_true hs]at h
 refine xu h (cs:=cs) rfl rfl rfl (by omega) (.t rfl) (by rw[M6];exact T.tab.vT) (au.kn Il Jq) (by omega) fun a h=>?_
 refine mK (args:=[tm 20]) (vs:=[.agg cs.toArray]) h rfl rfl rfl (by omega) L.zE (fun n a h=>by
  simp only[List.map_cons,List.map_nil]
  rw[Hd.t (l:=_) (i:=20) rfl n a h]) (L.zC w3 k cs t (ht.far (cz.of hk))) (by omega) fun e w4 hR=>?_
 obtain⟨b,rfl,It⟩:=hR
 have hk:=hk.trans It
 refine⟨_,rfl,fun a h=>BF h rfl rfl rfl (by omega) (.t rfl) (by omega) fun a h=>cr h (.t rfl) .c (.t rfl) (by omega) fun a h=>wpList_nil ?_⟩
 refine bn h (b:=!b) rfl (fun _=>aw (aP (ae h .c (by omega) fun a h=>wpList_nil (.ret (nj h rfl rfl hk))))) (fun _=>.skip ?_)
 have Xw:=au.kn (Il.trans It) NG
 have Pq:=au.kn (Il.trans It) Jq
 have h:=h.pick (m:=[(0,.int .u8 (x0:Int)),(2,.int .i32 number),(5,pt B 0),(7,pt B2 0)]) ⟨rfl,rfl,rfl,rfl,trivial⟩
 refine aw (aP (cn h (cs:=[.bool has,strV s]) (.t rfl) T.vId Xw (by omega) fun a h=>aT h TJ.ent (vs:=[.agg [.bool has,strV s].toArray]) (fun n a h=>by
  simp only[List.map_cons,List.map_nil]
  rw[Hd.t (l:=_) (i:=25) rfl n a h]) (yI T TJ has s hs w4) (by omega) fun e w5 hR=>?_))
 obtain⟨vi,rfl,Ut,Jc⟩:=hR
 have hk:=hk.trans Jc
 refine⟨_,rfl,fun a h=>ai h (.t rfl) (by omega) fun a h=>iW h (.t rfl) rfl (by omega) fun a h=>iW h (.t rfl) rfl (by omega) fun a h=>ae h (.t rfl) (by omega) fun a h=>ae h (.t rfl) (by omega) fun a h=>wpList_nil ?_⟩
 refine aw (aP (aT h L.mE (vs:=[]) (fun _ _ _=>rfl) (L.mC w5) (by omega) fun e w6 hR=>?_))
 obtain⟨rfl,Lc⟩:=hR
 have hk:=hk.trans Lc
 refine⟨_,rfl,fun a h=>ae h (.t rfl) (by omega) fun a h=>wpList_nil ?_⟩
 refine aw (aw (aP (ai h (.t rfl) (by omega) fun a h=>br h rfl (.t rfl) .i (by omega) fun a h=>wpList_nil ?_)))
 refine bn h rfl (fun hb=>by simp[aW]at hb;omega) (fun _=>.skip ?_)
 refine aw (aP (ai h (.t rfl) (by omega) fun a h=>ai h (.t rfl) (by omega) fun a h=>aT h L.vE (vs:=[.int .u8 (x0:Int),.int .i64 (most:Int)]) (fun n a h=>by
  simp only[List.map_cons,List.map_nil]
  rw[Hd.t (l:=_) (i:=32) rfl n a h,Hd.t (l:=_) (i:=33) rfl n a h]) (L.vC x0 w6 hx) (by omega) fun e w7 hR=>?_))
 obtain⟨rfl,Nl⟩:=hR
 rw[<- hver]
 have hk:=hk.trans Nl
 refine⟨_,rfl,fun a h=>ae h (.t rfl) (by omega) fun a h=>wpList_nil ?_⟩
 have h:=h.pick (m:=[(2,.int .i32 number),(5,pt B 0),(7,pt B2 0),(9,vi),(10,.bool (decide (s.length<=32767))),(12,.int .i64 ver)]) ⟨rfl,rfl,rfl,rfl,rfl,rfl,trivial⟩
 have RZ:=(Jc.trans Lc).trans Nl
 have hi7:=au.kn RZ Xw
 have hc7:=au.kn RZ Pq
 refine aw (vI [true,false,false,true,true] (fun w'=>ac (fun _=>False) w7 w') (by kernel_rfl) ?_)
 show eT P _ [mk (some 36) (.move (tm 12)),mk (some 37) (.load S.tT (tm 7))] a
  fun af=>eg P _ _ [cl (some 35) N.fMsg [],cl (some 38) S.fWrite [(tm 35),(tm 36),(tm 37)],mk (some 13) (.assign (tm 38))] af w7.drew
 refine dz h (.t rfl) (by omega) fun a h=>jz h (cs:=cs) (.t rfl) (by rw[M6];exact T.tab.vT) (fun w' hI=>au.kn hI hc7) (by omega) fun a h=>n9 ?_
 have Mg:ac (fun _=>False) w7 w7.drew:=ac.drew _ _
 refine fJ h Mg L.bE (vs:=[]) (fun _ _ _=>rfl) (L.bC _) (by omega) fun e w8 hR=>?_
 obtain⟨fv,rfl,IQ,Xs⟩:=hR
 have Tl:=Mg.trans Xs
 refine⟨_,rfl,fun a h=>fJ h Tl L.wE (vs:=[.agg [fv,.int .i64 flex].toArray,.int .i64 ver,.agg cs.toArray]) (fun n a h=>by
  simp only[List.map_cons,List.map_nil]
  rw[Hd.t (l:=_) (i:=35) rfl n a h,Hd.t (l:=_) (i:=36) rfl n a h,Hd.t (l:=_) (i:=37) rfl n a h]) (L.wC w8 ver k cs t fv IQ (ht.far (cz.of (hk.trans Tl))) (by rw[ID];exact Ib)) (by omega) fun e w9 hR=>?_⟩
 rw[ID]at hR
 obtain⟨vb,rfl,hd,hk9⟩:=hR
 have Tk:=Tl.trans hk9
 refine⟨_,rfl,fun a h=>f9 h Tk (.t rfl) (by omega) fun a h=>ku Tk ?_⟩
 have hk:=hk.trans Tk
 have h:=h.pick (m:=[(2,.int .i32 number),(5,pt B 0),(9,vi),(10,.bool (decide (s.length<=32767))),(12,.int .i64 ver),(13,vb)]) ⟨rfl,rfl,rfl,rfl,rfl,rfl,trivial⟩
 have TK:=au.kn Tk hi7
 refine aw (aP (cn h (cs:=[.bool has,strV s]) (.t rfl) T.vId TK (by omega) fun a h=>ai h (.t rfl) (by omega) fun a h=>ai h (.t rfl) (by omega) fun a h=>dP h (.t rfl) T.tab.dInt T.dI16 (by omega) fun a h=>?_))
 rw[hw]at h
 refine ai h (.t rfl) (by omega) fun a h=>aT h hEM (vs:=[.agg [.bool has,strV s].toArray,.int .i32 number,.int .i16 ver,vb]) (fun n a h=>by
  simp only[List.map_cons,List.map_nil]
  rw[Hd.t (l:=_) (i:=40) rfl n a h,Hd.t (l:=_) (i:=41) rfl n a h,Hd.t (l:=_) (i:=43) rfl n a h,Hd.t (l:=_) (i:=44) rfl n a h]) (Ue w9 vb hs hd.sl (herr.keep hk id)) (by omega) fun e w10 hR=>?_
 obtain⟨y,rfl,hy,J7⟩:=hR
 refine⟨_,rfl,fun a h=>ai h (.t rfl) (by omega) fun a h=>iW h (.t rfl) rfl (by omega) fun a h=>iW h (.t rfl) rfl (by omega) fun a h=>ae h (.t rfl) (by omega) fun a h=>ae h (.t rfl) (by omega) fun a h=>wpList_nil ?_⟩
 have h:=h.pick (m:=[(2,.int .i32 number),(5,pt B 0),(9,vi),(10,.bool (decide (s.length<=32767))),(12,.int .i64 ver),(13,vb),(14,y),(15,.bool true)]) ⟨rfl,rfl,rfl,rfl,rfl,rfl,rfl,rfl,trivial⟩
 refine aw (vP T L WP (hk.trans J7) (au.kn J7 TK) (fun w vs vb h1 h2=>VE w vs vb hs h1 h2) (Ih hs) hEF hy (Ut.keep (((Lc.trans Nl).trans Tk).trans J7)) (hd.sl.keep J7) h fun a w l h hk=>.ret ?_)
 exact nj h rfl rfl hk
end
end
section
open Go Go.ChangeShapes Go.WideShapes Go.RowKit Go.Deep
set_option maxRecDepth 4000
section
variable {P:Program} {S:SN} {N:FN} {most flexN:Nat} {hf:Bool} {flex:Int} {sf:SFs} {fs:Fds} {toff:Option Nat} {gErr Tm:Nat} {z:Array Value}
theorem lawF_of (RT:RefT P S){fMV ntV ntSm ntM ntMV:Nat}(hI:P.underlying N.tI16=some (.int .i16))(hV:FnIs P N.fVer ntV [4] (cVer S.tU8 S.tInt))(hnV:10<=ntV)(X8:FnIs P S.fSame ntSm [4] (cSame S.tSl S.tU8 S.tInt))(Vf:26<=ntSm)
  (M:MsgC P gErr S.tU8 false hf flexN fs toff Tm z N.fNp N.fSv N.fRf N.fAt) (hM:FnIs P N.fMax ntM [0] (cMax N.tI16 S.tInt N.fNp fMV)) (hnM:4<=ntM) (XD:FnIs P fMV ntMV [2] (cMaxV (most:Int))) (Vg:3<=ntMV) (JA:most<32768)
  (h4:FnIs P S.fZ4 7 [2] (csZ4 S)) (h3:FnIs P S.fZ3 18 [2] (csZ3 S)) (h2:FnIs P S.fZ2 15 [2] (csZ2 S)) (hB:Ent P N.fMsg/\MsgBC P N.fMsg flex sf) (X4:FnIs P S.fWrite 21 [6] (csWr S)) (Q7:Ent P S.fPart) (Te:pl P S sf):LawF P S N most flex sf where
 zE:=h2.ent
 zC w _k _cs _t ht:=wF RT h4 h3 h2 w ht
 mE:=hM.ent
 mC w:=vJ RT.mixed hI RT.dInt JA hM hnM M.newE ((M.newC w).mono fun _e _w' h=>⟨h.1,h.2.1⟩) XD.ent fun _w=>sR RT.mixed XD Vg
 bE:=hB.1
 bC:=hB.2
 vE:=hV.ent
 vC _x _w hx:=uS RT.mixed RT.dU8 RT.dInt hx JA hV hnV
 wE:=X4.ent
 wC W _ver _k _cs _t _fv IQ ht hlim:=wO RT X4 Q7 Te W IQ ht hlim
 sE:=X8.ent
 sC _ _ _ _ _ ha hb OA:=sk RT.mixed RT.oct RT.vU8 X8 Vf ha hb OA
theorem frW_of {K:Kn}(wt:WT P K)(hU:K.tU8=S.tU8)(QC:b7 K.tU16=true){f16 f32 fS tP:Nat}(i16:FnIs P N.fA16 9 [4] (cACv K.tI16 K.tU16 f16))(u16:FnIs P f16 13 [4] (cAU16 K))(i32:FnIs P N.fA32 9 [4] (cACv K.tI32 K.tU32 f32))(u32:FnIs P f32 19 [4] (cAU32 K))
  (str:FnIs P fS 13 [4] (cAStr K K.tStr K.tI16 N.fA16)) (ns:FnIs P N.fANS 14 [4] (cANStr K tP (.int .i16 (-1)) N.fA16 fS)) (hP:P.underlying tP=some (.pointer K.tStr)) (atE:Ent P N.fAt)
  (atC:∀ (w:World) (L B:Nat) (ver:Int) (vs:List V) (t:List (Nat × Bs)) (d0:Value) (bs0:Bs),-32768<=ver/\ver<32768->B<L->L<=w.heap.size->w.cell? ⟨B,0,none⟩=some (.int .i16 ver)->RpF w (fun k=>L<=k) fs B 0 vs->dJ w (fun k=>L<=k) B 0 toff t ->
   aA w L K.tU8 d0 bs0->(bs0++dD false hf flexN fs ver (.st vs t)).length<=di->Calls P N.fAt #[pt B 0,d0] w fun e w'=>∃ d',e=.returned d'/\Gr L K.tU8 d0 w d' (bs0++dD false hf flexN fs ver (.st vs t)) w'):FrW P S N hf flexN fs toff where
 a16E:=i16.ent
 a16C x w:=hU ▸ ap_i16 wt QC u16 (by omega) i16 (by omega) x w
 a32E:=i32.ent
 a32C x w:=hU ▸ ap_i32 wt u32 (by omega) i32 (by omega) x w
 a32I x w g c cur hg hc h4:=by
  rw[<- hU]at hg ⊢
  have h:=H4 wt wt.dU32 u32 (by simp[d8,eu]) (by simp) (by simp) (x:=IntKind.u32.wrap x) (fun e he=>.inr ⟨.inr (.inl rfl),((iO x).2.1 rfl).1,by have:=((iO (k:=.u32) x).2.1 rfl).2;simp[IntKind.bits];omega,fun s hs=>by simp at he;rcases he with rfl|rfl|rfl|rfl<;>simp at hs<;>subst hs<;>decide⟩) w hg hc (by simpa using h4)
  rw[G0,io (k:=.u32) (.inr (.inr (.inl ⟨.inr rfl,rfl⟩)))]at h
  exact Hy wt wt.dI32 wt.dU32 i32 (by omega) u32.ent h
 nsE:=ns.ent
 ns0 w:=hU ▸ rC wt hP i16.ent (ap_i16 wt QC u16 (by omega) i16 (by omega) (-1) w) ns (by omega)
 ns1 w c s hc:=by
  rw[<- hU]
  refine rB wt hP hc str.ent (fun L'=>?_) ns (by omega)
  have h:=ap_i16 wt QC u16 (by omega) i16 (by omega) (IntKind.i16.wrap (s.length:Int)) w
  rw[io (.inr (.inl ⟨.inl rfl,rfl⟩))]at h
  exact zk wt wt.dI16 (pz wt.dStr s L' w) i16.ent h str (by omega)
 atE:=atE
 atC:=hU ▸ atC
theorem frame_law (T:FnT P S N)(L:LawF P S N most flex sf)(H:FrW P S N hf flexN fs toff)(G:FrF P S N)(M:MsgC P gErr S.tU8 false hf flexN fs toff Tm z N.fNp N.fSv N.fRf N.fAt){ms:Array (String × TypeId)}(Q9:P.underlying N.tErr=some (.interface ms))(Ue:FnIs P N.fFM 25 [8,9] (cFFM S N))
  (QE:FnIs P N.fZ1 7 [2] (cFZ1 S N)) (TJ:FnIs P N.fId 11 [2,3] (cFId S N)) (XK:FnIs P N.fFr 51 [12] (cFFr S N)) (JR:FnIs P S.fFix 22 [4] (csFi S)) (Ih:FnIs P N.fFl 84 [4] (cFFl S N)) {f:Nat} (hfn:FnIs P f 65 [8] (cFLaw S N)) (JA:most<32768) (JS:yV hf flexN most flex fs sf=true)
  (JP:fO sf=true) (Ph:decide (sQ sf+ws+2147483900<=di)=true) {x0:Nat} (hx:x0<256) {W:World} {k:Nat} {number:Int} {has:Bool} {s:Bs} {cs:List Value} {t:Tr} (RA:-2147483648<=number/\number<2147483648) (ht:TrRp W k cs t) (herr:ErrAt gErr W) :
  Calls P f [.int .u8 (x0:Int),.agg [.bool has,strV s].toArray,.int .i32 number,.agg cs.toArray].toArray W (TrueC W):=by
 have hv:x0%(most+1)<=most:=by have:=Nat.mod_lt x0 (show 0<most+1 by omega);omega
 obtain⟨h1,h2⟩:=CR JS hv
 have Ph:=of_decide_eq_true Ph
 have hl:=xC (ver:=((x0%(most+1):Nat):Int)) (fx:=rJ flex ((x0%(most+1):Nat):Int)) JP t
 obtain⟨v,nl,e1,e2⟩:=Ax h2 h1 t
 generalize hb:bh ((x0%(most+1):Nat):Int) (rJ flex ((x0%(most+1):Nat):Int)) sf t=body at hl e1 e2
 have hver:-32768<=((x0%(most+1):Nat):Int)/\((x0%(most+1):Nat):Int)<32768:=by omega
 have Si:(vV has s).length<=2+s.length:=by
  unfold vV
  split<;>simp only[List.length_append,ch]<;>omega
 have Sy:(vY ((x0%(most+1):Nat):Int)).length<=1:=by
  unfold vY
  split<;>simp
 have Tg:di<=9223372036854775000:=by decide
 refine sV T L QE TJ Ue.ent XK.ent hfn JA hx ht herr rfl hb (by omega) (fun hs=>?_) (fun w srcv hs J3 he=>?_) (fun w vs vb hs h1 h2=>?_)
 ·simp only[ry,th,List.length_append,ch,maxLen]
  omega
 ·exact yQ T H G M Q9 Ue hver J3 he e1 rfl e2 (by omega)
 ·exact rx T XK JR Ih hver RA h1 h2 (by omega)
end
section
variable {H:Type} {enc:TypeId × Value->H} {P:Program} {S:SN} {N:FN} {W:World}
theorem Am (T:FnT P S N)(dB:P.underlying S.tB=some .bool)(cB:P.cellsOf S.tB=1)(cS:P.cellsOf N.tStr=1)(cI:P.cellsOf N.tId=2)(nI:BE P N.tId 2=true){fuel:Nat}{cs:List Value}{x:DataW H × List MemPlace}(h:DataW.trod enc P W 0 (fun _=>true) true fuel N.tId cs=some x) :
  ∃ (has:Bool) (s:Bs),cs=[.bool has,strV s]:=by
 obtain⟨fs,f0,hu,S6,o0,ty0⟩:=T.i0.fld
 obtain⟨fs',f1,Mj,LK,o1,ty1⟩:=T.i1.fld
 obtain rfl:fs=fs':=by rw[hu]at Mj;simpa using Mj
 obtain⟨xs,n,rfl,rfl,KQ,Nc,IQ⟩:=DataW.trod_struct hu h
 rw[cI]at KQ
 rw[se nI hu]at Nc
 match cs,KQ,xs,Nc with
 | [c0,c1],_,[y0,y1],_=>
  have h0:=IQ 0 f0 S6
  have h1:=IQ 1 f1 LK
  rw[o0,ty0,cB]at h0
  rw[o1,ty1,cS]at h1
  simp only[List.drop_zero,List.take_succ_cons,List.take_zero,List.getElem?_cons_zero]at h0
  simp only[List.drop_succ_cons,List.drop_zero,List.take_succ_cons,List.take_zero,List.getElem?_cons_succ,List.getElem?_cons_zero]at h1
  obtain⟨b,e0,_⟩:=DataW.trod_bool dB h0
  obtain⟨s,e1,_,_⟩:=DataW.trod_string T.dStr h1
  simp only[List.cons.injEq,and_true]at e0 e1
  refine⟨b,s.data.toList,?_⟩
  rw[e0,e1]
  simp[strV]
theorem E3 (T:FnT P S N)(dB:P.underlying S.tB=some .bool)(cB:P.cellsOf S.tB=1)(cS:P.cellsOf N.tStr=1)(cI:P.cellsOf N.tId=2)(nI:BE P N.tId 2=true){base:Nat}{v:Value}{d:DataW H}{p:List MemPlace}(hval:Value.okWide P W .any base N.tId v)(h:DataW.Trod enc P W 0 (fun _=>true) true N.tId v d p) :
  ∃ (has:Bool) (s:Bs),v=.agg [.bool has,strV s].toArray:=by
 obtain⟨fs,f0,hu,_⟩:=T.i0.fld
 obtain⟨cs,rfl,_⟩:=okWide_struct hu hval
 obtain⟨fuel,hf⟩:=h
 obtain⟨has,s,e⟩:=Am T dB cB cS cI nI hf
 refine⟨has,s,?_⟩
 rw[<- e]
 simp[Value.cells]
theorem rowF (R:TreT P S)(T:FnT P S N)(cS:P.cellsOf N.tStr=1)(cI:P.cellsOf N.tId=2)(nI:BE P N.tId 2=true)(Jk:laidOutB P=true)(hrr:P.readableRec S.tT=true)(Id:S.tT<P.types.size)(hri:P.readableRec N.tId=true)(NB:N.tId<P.types.size){f:FuncId}{fn:Func}{s:ChangeSpec}{tX tY tB:TypeId}
  (PO:fn.params.toList=[tX,N.tId,tY,S.tT]) (MM:fn.resultTypes=#[tB]) (hX:P.underlying tX=some (.int .u8)) (hY:P.underlying tY=some (.int .i32)) (hB:P.underlying tB=some .bool)
  (hv:s.vars=[]) (hs:∀ d1 d2 d3 d4:DataW H,s.fn H [d1,d2,d3,d4]={ results:=[.lit (.bool true)],args:=[d1,d2,d3,d4] }) {base:Nat} {args:Array Value} {ds gs:List (DataW H)} {before:List MemPlace}
  (hval:∀ (j:Nat) t v,fn.params[j]?=some t->args[j]?=some v->Value.okWide P W .any base t v) (hW:DataW.Whole enc P fn.params.toList s.vars false W args.toList ds gs before)
  (SO:∀ (x0 k:Nat) (number:Int) (has:Bool) (n:Bs) (cs:List Value) (t:Tr),x0<256->-2147483648<=number/\number<2147483648->TrRp W k cs t->Calls P f [.int .u8 (x0:Int),.agg [.bool has,strV n].toArray,.int .i32 number,.agg cs.toArray].toArray W (TrueC W)) :
  Calls P f args W fun e W'=>∃ v,e=.returned v/\s.post enc P fn false true false false W args v W':=by
 have Wo:=hW
 obtain⟨p,q,hA0,hV,rfl,hfz,RF⟩:=hW
 have hA:DataW.TrodAll enc P W 0 (fun _=>true) true fn.params.toList args.toList ds p:=hA0
 have QL:∀ j,fn.params[j]?=([tX,N.tId,tY,S.tT]:List TypeId)[j]?:=fun j=>by rw[<- PO,Array.getElem?_toList]
 rw[PO]at hA
 obtain⟨v0,v1,v2,v3,d0,d1,d2,d3,p0,p1,p2,p3,rfl,rfl,rfl,h0,h1,h2,h3⟩:=trodAll_four hA
 rw[hv]at hV
 obtain⟨rfl,rfl⟩:=trodVars_none hV
 obtain⟨n,rfl,rfl,rfl,hn⟩:=open_int hX (hval 0 tX v0 (by rw[QL];rfl) rfl) h0
 obtain⟨m,rfl,rfl,rfl,hm⟩:=open_int hY (hval 2 tY v2 (by rw[QL];rfl) rfl) h2
 obtain⟨has,nm,rfl⟩:=E3 T R.dB R.cB cS cI nI (hval 1 N.tId v1 (by rw[QL];rfl) rfl) h1
 obtain⟨k,cs,t,rfl,ht,Nd⟩:=zi R (hval 3 S.tT v3 (by rw[QL];rfl) rfl) h3
 have hn':0<=n/\n<256:=by
  simp[Lit.wf,IntKind.min,IntKind.max,IntKind.bits,IntKind.signed]at hn
  omega
 have PU:-2147483648<=m/\m<2147483648:=by
  simp[Lit.wf,IntKind.min,IntKind.max,IntKind.bits,IntKind.signed]at hm
  omega
 have e:n=((n.toNat:Nat):Int):=by omega
 have KQ:=SO n.toNat k m has nm cs t (by omega) PU ht
 rw[<- e]at KQ
 refine KQ.mono fun e W' ⟨he,hk⟩=>?_
 subst he
 refine⟨_,rfl,_,_,_,[],p1++p3,[],Wo,?_,?_,?_,hk.butNone _,fun h=>by cases h⟩
 ·rw[MM]
  simp only[List.append_nil,hs]
  exact trodAll_mk1 (shut_bool hB true)
 ·rw[PO]
  simp only[List.append_nil,hs]
  have:=trodAll_mk4 (p:=[]) (p'':=[]) (shut_int (enc:=enc) (w:=W') (base:=0) (spare:=fun b=>decide (b<W.heap.size)) (held:=true) hX hn) (Below.trod Jk hri NB h1 hk.below fun x hx=>by
   have:=Wo.lt x (by simp[hx])
   simpa using this) (shut_int (enc:=enc) (w:=W') (base:=0) (spare:=fun b=>decide (b<W.heap.size)) (held:=true) hY hm) (Below.trod Jk hrr Id h3 hk.below fun x hx=>by
   have:=Wo.lt x (by simp[hx])
   simpa using this)
  simpa using this
 ·rw[hv]
  simp only[List.append_nil,hs]
  rfl
end
end
end Go.Proofs.YtpoeajgpacfpoaaGreatDoor.Kx