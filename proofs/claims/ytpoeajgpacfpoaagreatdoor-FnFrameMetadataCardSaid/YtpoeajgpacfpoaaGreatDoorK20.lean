/-
  PLAIN LAWS AND CONTRACTS of messages, part 20.
-/
import Derived.Test.YtpoeajgpacfpoaaGreatDoorK19

namespace Go.Proofs.YtpoeajgpacfpoaaGreatDoor.Kx
open Go
section
open Go
set_option maxRecDepth 4000
section
variable {P:Program} {S:SN} {N:FN}
theorem CL {w w1 w2:World}(h1:ac (fun _=>False) w w1)(h2:ac (fun k=>k=w.heap.size) w1 w2):ac (fun _=>False) w w2:=
 ((h1.mono (Y:=fun k=>k=w.heap.size) fun _ _ h=>h.elim).trans h2).mono fun k hk hX=>by omega
theorem sN (T:FnT P S N)(hfn:FnIs P N.fNew 18 [2] (cFNew S N))(w:World):Calls P N.fNew [aF].toArray w fun e w'=>e=.returned (pt w.heap.size 0)/\ac (fun _=>False) w w'/\w.heap.size<w'.heap.size/\kE N w' w.heap.size (.pointer none):=by
 refine bJ T.tab.mixed hfn (by simp) _ (by simp) fun a h=>?_
 unfold cFNew
 refine aw (aP (ae h .c (by omega) fun a h=>wpList_nil ?_))
 refine aw (aP (gE h (T.zFr w) (by omega) fun a h=>ae h (.t rfl) (by omega) fun a h=>wpList_nil ?_))
 have hk:ac (fun _=>False) w (w.alloc (.cells (Value.agg #[.pointer none]).cells N.tFr (0,0))):=ac.alloc _ _ _
 have hF:kE N (w.alloc (.cells (Value.agg #[.pointer none]).cells N.tFr (0,0))) w.heap.size (.pointer none):=aE w _
 generalize w.alloc (.cells (Value.agg #[.pointer none]).cells N.tFr (0,0))=w1 at hk hF ⊢
 refine aw (aw (aP (ai h (.t rfl) (by omega) fun a h=>cM h (.t rfl) T.dOpts (by omega) fun a h=>ai h .i (by omega) fun a h=>wpList_nil ?_)))
 refine ej (fun _ a' w'=>w'=w1/\St 18 a' [(3,pt w.heap.size 0),(8,.int .i64 ((0:Nat):Int)),(9,.int .i64 ((0:Nat):Int))]) 0 ⟨0,Nat.le_refl _,rfl,h.pick ⟨rfl,rfl,rfl,trivial⟩⟩ ?_
 rintro m a w2 hm ⟨rfl,h⟩
 refine aw (aP (br h rfl (.t rfl) (.t rfl) (by omega) fun a h=>wpList_nil ?_))
 refine gn h rfl (fun IK=>by simp[aW]at IK) (fun IK=>?_)
 refine .exit ?_
 show aK P _ _ a w2
 refine aw (aP (ai h (.t rfl) (by omega) fun a h=>ae h (.t rfl) (by omega) fun a h=>wpList_nil (.ret ?_)))
 exact dN (RR:=fun e w'=>e=.returned (pt w.heap.size 0)/\ac (fun _=>False) w w'/\w.heap.size<w'.heap.size/\kE N w' w.heap.size (.pointer none)) h rfl ⟨rfl,hk,(Array.getElem?_eq_some_iff.1 hF).1,hF⟩
theorem sM (T:FnT P S N)(hfn:FnIs P N.fNew 18 [2] (cFNew S N))(TS:FnIs P N.fAp 8 [] (cFAp S N))(KQ:FnIs P N.fCl 6 [] (cFCl S N)){w:World}{q c:Nat}(hq:w.cell? ⟨q,0,none⟩=some (.iface N.tFo (lA N c))) :
  Calls P N.fNew [.slice (some ⟨q,0,none⟩) 1 1].toArray w fun e w'=>e=.returned (pt w.heap.size 0)/\ac (fun _=>False) w w'/\w.heap.size<w'.heap.size/\kE N w' w.heap.size (pt c 0):=by
 have Rz:q<w.heap.size:=bP hq
 refine bJ T.tab.mixed hfn (by simp) _ (by simp) fun a h=>?_
 unfold cFNew
 refine aw (aP (ae h .c (by omega) fun a h=>wpList_nil ?_))
 refine aw (aP (gE h (T.zFr w) (by omega) fun a h=>ae h (.t rfl) (by omega) fun a h=>wpList_nil ?_))
 have hk:ac (fun _=>False) w (w.alloc (.cells (Value.agg #[.pointer none]).cells N.tFr (0,0))):=ac.alloc _ _ _
 have hF:kE N (w.alloc (.cells (Value.agg #[.pointer none]).cells N.tFr (0,0))) w.heap.size (.pointer none):=aE w _
 generalize w.alloc (.cells (Value.agg #[.pointer none]).cells N.tFr (0,0))=w1 at hk hF ⊢
 refine aw (aw (aP (ai h (.t rfl) (by omega) fun a h=>cM h (.t rfl) T.dOpts (by omega) fun a h=>ai h .i (by omega) fun a h=>wpList_nil ?_)))
 refine ej (fun m a' w'=>∃ i:Nat,i+m=1/\ac (fun _=>False) w w'/\kE N w' w.heap.size (if i=0 then .pointer none else pt c 0)/\St 18 a' [(3,pt w.heap.size 0),(7,.slice (some ⟨q,0,none⟩) 1 1),(8,.int .i64 ((1:Nat):Int)),(9,.int .i64 (i:Int))]) 1
  ⟨1,Nat.le_refl _,0,by omega,hk,by rw[if_pos rfl];exact hF,h.pick ⟨rfl,rfl,rfl,rfl,trivial⟩⟩ ?_
 rintro m a w2 hm ⟨i,NE,Ic,MG,h⟩
 refine aw (aP (br h rfl (.t rfl) (.t rfl) (by omega) fun a h=>wpList_nil ?_))
 refine gn h rfl (fun IK=>?_) (fun IK=>?_)
 ·have Sk:i=0:=by simp[aW]at IK;omega
  subst Sk
  have Lk:w2.cell? ⟨q,0+0*1,none⟩=some (.iface N.tFo (lA N c)):=by
   rw[bF (Ic.block q Rz id)];exact hq
  refine .skip (aw (.block (aw (aP (eD h (sz:=1) (.t rfl) (.t rfl) (by omega) T.dOpts T.vOpt.size (by omega) fun a h=>aU h (.t rfl) T.vOpt Lk (by omega) fun a h=>ae h (.t rfl) (by omega) fun a h=>wpList_nil ?_)))))
  refine aP (ai h (.t rfl) (by omega) fun a h=>ai h (.t rfl) (by omega) fun a h=>?_)
  refine ny h (args:=[tm 14]) (vs:=[pt w.heap.size 0]) TS.ent T.mAp (.t rfl) (fun n a h=>by simp[Hd.t (l:=_) (i:=14) rfl _ _ h]) (wn T TS KQ MG) (by omega) fun e w3 hR=>?_
  obtain⟨rfl,Il,QW⟩:=hR
  refine⟨_,rfl,fun a h=>wpList_nil ?_⟩
  refine aP (dn h (.t rfl) .i (by simp) (dZ w3) (by omega) fun a h=>?_)
  have hw:IntKind.i64.wrap (((0:Nat):Int)+1)=((1:Nat):Int):=by simp[IntKind.wrap,IntKind.bits,IntKind.signed]
  rw[hw]at h
  exact ai h (.t rfl) (by omega) fun a h=>wpList_nil ⟨m-1,by omega,by omega,1,by omega,CL Ic Il,by rw[if_neg (by omega)];exact QW,h.pick ⟨rfl,rfl,rfl,rfl,trivial⟩⟩
 ·have Sj:i=1:=by simp[aW]at IK;omega
  subst Sj
  rw[if_neg (by omega)]at MG
  refine .exit ?_
  show aK P _ _ a w2
  refine aw (aP (ai h (.t rfl) (by omega) fun a h=>ae h (.t rfl) (by omega) fun a h=>wpList_nil (.ret ?_)))
  exact dN (RR:=fun e w'=>e=.returned (pt w.heap.size 0)/\ac (fun _=>False) w w'/\w.heap.size<w'.heap.size/\kE N w' w.heap.size (pt c 0)) h rfl ⟨rfl,Ic,(Array.getElem?_eq_some_iff.1 MG).1,MG⟩
end
end
section
open Go
set_option maxRecDepth 10000
def vV (has:Bool)(s:Bs):Bs:=if has then be 2 (s.length:Int)++s else be 2 (-1)
def vY (ver:Int):Bs:=if 9<=ver then[0] else[]
def th (ver number:Int)(has:Bool)(s body:Bs):Bs:=be 2 3++be 2 ver++be 4 number++vV has s++vY ver++body
def ry (ver number:Int)(has:Bool)(s body:Bs):Bs:=be 4 ((th ver number has s body).length:Int)++th ver number has s body
section
variable {P:Program} {S:SN} {N:FN}
theorem HB {x y:Code}{Q:Exit->Act->World->Prop}{K:Act->World->Prop}{a:Act}{w:World}(h:aK P x (Rt K fun _ _=>False) a w)(hy:∀ a w,K a w->aK P y Q a w):aK P (.seq x y) Q a w:=
 .seq h (fun a w hr=>hy a w hr) fun e a w he hr=>by
  cases e with
  | normal=>exact absurd rfl he
  | _=>exact hr.elim
theorem vZ (T:FnT P S N)(hfn:FnIs P N.fFl 84 [4] (cFFl S N))(ver:Int)(w:World):Calls P N.fFl [.int .i16 3,.int .i16 ver].toArray w fun e w'=>e=.returned (.bool (decide (9<=ver)))/\w'=w:=by
 refine bJ T.tab.mixed hfn (by simp) _ (by simp) fun a h=>?_
 unfold cFFl
 refine aw (aP (ae h .c (by omega) fun a h=>wpList_nil ?_))
 refine aw (aw (aP (ai h (.t rfl) (by omega) fun a h=>wpList_nil ?_)))
 refine .block ?_
 repeat(first
  | refine aw (aP (br h rfl (.t rfl) .i (by omega) fun a h=>ae h (.t rfl) (by omega) fun a h=>wpList_nil (bn h rfl (fun hb=>absurd hb (by decide)) fun _=>?_)))
  | refine aP (br h rfl (.t rfl) .i (by omega) fun a h=>ae h (.t rfl) (by omega) fun a h=>wpList_nil (bn h rfl (fun hb=>absurd hb (by decide)) fun _=>?_))
  | refine aw ?_)
 refine aP (br h rfl (.t rfl) .i (by omega) fun a h=>ae h (.t rfl) (by omega) fun a h=>wpList_nil (bn h rfl (fun _=>?_) fun hb=>absurd hb (by decide)))
 refine aw (aP (ai h (.t rfl) (by omega) fun a h=>br h rfl (.t rfl) .i (by omega) fun a h=>ae h (.t rfl) (by omega) fun a h=>wpList_nil (.ret ?_)))
 exact dN (RR:=fun e w'=>e=.returned (.bool (decide (9<=ver)))/\w'=w) h rfl ⟨by simp[aW],rfl⟩
theorem sZ {x:Int}(h:-9223372036854775808<=x/\x<9223372036854775808):IntKind.i64.wrap x=x:=by
 simp[IntKind.wrap,IntKind.bits,IntKind.signed];omega
theorem ch (k:Nat)(x:Int):(be k x).length=k:=bY k x
section
variable {ops:Array Oper} {Q:Exit->Act->World->Prop} {r:List Oper} {n:Nat} {a:Act} {w W:World} {l:List (Nat × Value)}
theorem lN (T:FnT P S N)(JR:FnIs P S.fFix 22 [4] (csFi S))(h:St n a l){d:Nat}{x:Operand}{m:Int}{k:Nat}(hk:k<=8)(hx:Hd l x (.int .i64 m))(_hW:cz W w)(hd:d<n)
  (c:∀ v w' a',aA w' w.heap.size S.tU8 v (be k m)->ac (fun _=>False) w w'->St n a' ((d,v)::l)->wpList P ops Q r a' w'):wpList P ops Q (cl (some d) S.fFix [x,ki .i64 (k:Int)]::r) a w:=
 aT h JR.ent (vs:=[.int .i64 m,.int .i64 (k:Int)]) (fun n a h=>by simp[hx n a h,ki,dg]) (lW T.tab JR m hk w) hd fun e w' hR=>by
  obtain⟨v,rfl,hv,J1⟩:=hR
  exact⟨v,rfl,fun a' h'=>c v w' a' hv J1 h'⟩
theorem iu (T:FnT P S N)(h:St n a l){d:Nat}{x y:Operand}{dv sv:Value}{bs ss:Bs}(hx:Hd l x dv)(hy:Hd l y sv)(hW:cz W w)(hd:aA w W.heap.size S.tU8 dv bs)(hs:ci w (fun _=>False) sv ss)(hlim:bs.length+ss.length<=di)(NR:d<n)
  (c:∀ v w' a',aA w' W.heap.size S.tU8 v (bs++ss)->cz W w'->St n a' ((d,v)::l)->wpList P ops Q r a' w'):wpList P ops Q (bi (some d) .append [x,y] [S.tSl,S.tSl] S.tSl::r) a w:=
 iX h T.tab.oct hx hy hd (xo T.tab.oct hs) hW.size hlim NR fun v w' a' hg h'=>c v w' a' hg.dst (ac.trans hW (Gr.far hd hg)) h'
end
theorem rx (T:FnT P S N)(hfn:FnIs P N.fFr 51 [12] (cFFr S N))(JR:FnIs P S.fFix 22 [4] (csFi S))(Ih:FnIs P N.fFl 84 [4] (cFFl S N)){W:World}{ver number:Int}{has:Bool}{vs vb:Value}{s body:Bs}(hver:-32768<=ver/\ver<32768)(RA:-2147483648<=number/\number<2147483648)
  (hs:ci W (fun _=>False) vs s) (hb:ci W (fun _=>False) vb body) (hlim:s.length+body.length+100<=di) :
  Calls P N.fFr [.int .i16 3,.int .i16 ver,.int .i32 number,.bool has,vs,vb].toArray W (aZ S.tU8 (ry ver number has s body) W):=by
 have Tg:di<=9223372036854775807:=by decide
 obtain⟨sb,sc,rfl,_⟩:=hs.form
 refine bJ T.tab.mixed hfn (by simp) _ (by simp) fun a h=>?_
 unfold cFFr
 refine aw (aP (ae h .c (by omega) fun a h=>wpList_nil ?_))
 refine aw (aP (ai h (.t rfl) (by omega) fun a h=>dP h (.t rfl) T.dI16 T.tab.dI64 (by omega) fun a h=>?_))
 rw[sZ (by omega)]at h
 refine lN (k:=2) (W:=W) T JR h (by omega) (.t rfl) (cz.refl W) (by omega) fun v1 w1 a Ks Ir h=>?_
 refine ai h (.t rfl) (by omega) fun a h=>dP h (.t rfl) T.dI16 T.tab.dI64 (by omega) fun a h=>?_
 rw[sZ (by omega)]at h
 have QX:cz W w1:=(cz.refl W).kn Ir
 refine lN (k:=2) (W:=W) T JR h (by omega) (.t rfl) QX (by omega) fun v2 w2 a IG Ic h=>?_
 have MG:=QX.kn Ic
 refine iu (W:=W) T h (.t rfl) (.t rfl) MG (Ks.keep Ic fun _ _ h=>h) IG.sl (by simp only[ch];decide) (by omega) fun v w a hd hF h=>?_
 refine ae h (.t rfl) (by omega) fun a h=>wpList_nil ?_
 have h:=h.pick (m:=[(0,.int .i16 3),(1,.int .i16 ver),(2,.int .i32 number),(3,.bool has),(4,.slice sb s.length sc),(5,vb),(13,v)]) ⟨rfl,rfl,rfl,rfl,rfl,rfl,rfl,trivial⟩
 refine aw (aP (ai h (.t rfl) (by omega) fun a h=>ai h (.t rfl) (by omega) fun a h=>dP h (.t rfl) T.dI32 T.tab.dI64 (by omega) fun a h=>?_))
 rw[sZ (by omega)]at h
 refine lN (k:=4) (W:=W) T JR h (by omega) (.t rfl) hF (by omega) fun v2 w2 a IG Ic h=>?_
 refine iu (W:=W) T h (.t rfl) (.t rfl) (hF.kn Ic) (hd.keep Ic fun _ _ h=>h) IG.sl (by simp only[ch,List.length_append];decide) (by omega) fun v w a hd hF h=>?_
 refine ae h (.t rfl) (by omega) fun a h=>wpList_nil ?_
 have h:=h.pick (m:=[(0,.int .i16 3),(1,.int .i16 ver),(3,.bool has),(4,.slice sb s.length sc),(5,vb),(13,v)]) ⟨rfl,rfl,rfl,rfl,rfl,rfl,trivial⟩
 refine HB (K:=fun a w=>∃ v,aA w W.heap.size S.tU8 v (be 2 3++be 2 ver++be 4 number++vV has s)/\cz W w/\St 51 a [(0,.int .i16 3),(1,.int .i16 ver),(5,vb),(13,v)]) ?_ ?_
 ·refine aw (aP (ai h (.t rfl) (by omega) fun a h=>wpList_nil ?_))
  refine bn h rfl (fun hh=>?_) (fun hh=>?_)
  ·refine aP (ai h (.t rfl) (by omega) fun a h=>ai h (.t rfl) (by omega) fun a h=>cM h (.t rfl) T.tab.oct.und (by omega) fun a h=>?_)
   refine lN (k:=2) (W:=W) T JR h (by omega) (.t rfl) hF (by omega) fun v2 w2 a IG Ic h=>?_
   refine iu (W:=W) T h (.t rfl) (.t rfl) (hF.kn Ic) (hd.keep Ic fun _ _ h=>h) IG.sl (by simp only[ch,List.length_append];decide) (by omega) fun v w3 a hd hF h=>?_
   refine ai h (.t rfl) (by omega) fun a h=>?_
   refine iu (W:=W) T h (.t rfl) (.t rfl) hF hd (hs.far hF) (by simp only[ch,List.length_append];omega) (by omega) fun v w a hd hF h=>?_
   refine ae h (.t rfl) (by omega) fun a h=>wpList_nil ⟨v,?_,hF,h.pick ⟨rfl,rfl,rfl,rfl,trivial⟩⟩
   simpa only[vV,hh,if_true,List.append_assoc]using hd
  ·refine aP (ai h (.t rfl) (by omega) fun a h=>?_)
   refine lN (k:=2) (W:=W) T JR h (by omega) .i hF (by omega) fun v2 w2 a IG Ic h=>?_
   refine iu (W:=W) T h (.t rfl) (.t rfl) (hF.kn Ic) (hd.keep Ic fun _ _ h=>h) IG.sl (by simp only[ch,List.length_append];decide) (by omega) fun v w a hd hF h=>?_
   refine ae h (.t rfl) (by omega) fun a h=>wpList_nil ⟨v,?_,hF,h.pick ⟨rfl,rfl,rfl,rfl,trivial⟩⟩
   simpa only[vV,hh,Bool.false_eq_true,if_false,List.append_assoc]using hd
 rintro a w ⟨v,hd,hF,h⟩
 have Si:(vV has s).length<=2+s.length:=by
  unfold vV
  split<;>simp only[List.length_append,ch]<;>omega
 refine HB (K:=fun a w=>∃ v,aA w W.heap.size S.tU8 v (be 2 3++be 2 ver++be 4 number++vV has s++vY ver)/\cz W w/\St 51 a [(5,vb),(13,v)]) ?_ ?_
 ·refine aw (aP (ai h (.t rfl) (by omega) fun a h=>ai h (.t rfl) (by omega) fun a h=>aT h Ih.ent (vs:=[.int .i16 3,.int .i16 ver]) (fun n a h=>by simp[Hd.t (l:=_) (i:=37) rfl _ _ h,Hd.t (l:=_) (i:=38) rfl _ _ h]) (vZ T Ih ver w) (by omega) fun e w' hR=>?_))
  obtain⟨rfl,rfl⟩:=hR
  refine⟨_,rfl,fun a h=>wpList_nil ?_⟩
  refine bn h rfl (fun hh=>?_) (fun hh=>?_)
  ·refine aP (ai h (.t rfl) (by omega) fun a h=>?_)
   refine kZ (b:=0) h T.tab.oct .i (by omega) fun v2 a IG h=>?_
   have Ic:ac (fun _=>False) w' (w'.alloc (.cells #[aJ 0] S.tU8 (0,0))):=ac.alloc _ _ _
   generalize w'.alloc (.cells #[aJ 0] S.tU8 (0,0))=w2 at Ic IG h ⊢
   refine iu (W:=W) T h (.t rfl) (.t rfl) (hF.kn Ic) (hd.keep Ic fun _ _ h=>h) IG.sl (by simp only[ch,List.length_append,List.length_cons,List.length_nil];omega) (by omega) fun v w a hd hF h=>?_
   refine ae h (.t rfl) (by omega) fun a h=>wpList_nil ⟨v,?_,hF,h.pick ⟨rfl,rfl,trivial⟩⟩
   have h9:9<=ver:=of_decide_eq_true hh
   simpa only[vY,if_pos h9]using hd
  ·refine .skip ⟨v,?_,hF,h.pick ⟨rfl,rfl,trivial⟩⟩
   have h9:¬ 9<=ver:=of_decide_eq_false hh
   simpa only[vY,if_neg h9,List.append_nil]using hd
 rintro a w ⟨v,hd,hF,h⟩
 have Sy:(vY ver).length<=1:=by
  unfold vY
  split<;>simp
 have hI:(th ver number has s body).length<=s.length+body.length+11:=by
  simp only[th,List.length_append,ch];omega
 refine aw (aP (ai h (.t rfl) (by omega) fun a h=>ai h (.t rfl) (by omega) fun a h=>?_))
 refine iu (W:=W) T h (.t rfl) (.t rfl) hF hd (hb.far hF) (by simp only[ch,List.length_append];omega) (by omega) fun v w a hd hF h=>?_
 refine ae h (.t rfl) (by omega) fun a h=>wpList_nil ?_
 have hd:aA w W.heap.size S.tU8 v (th ver number has s body):=hd
 obtain⟨fb,fc,rfl,_⟩:=hd.sl.form
 have h:=h.pick (m:=[(13,.slice fb (th ver number has s body).length fc)]) ⟨rfl,trivial⟩
 refine aw (aP (ai h (.t rfl) (by omega) fun a h=>cM h (.t rfl) T.tab.oct.und (by omega) fun a h=>?_))
 refine lN (k:=4) (W:=W) T JR h (by omega) (.t rfl) hF (by omega) fun v2 w2 a IG Ic h=>?_
 refine ai h (.t rfl) (by omega) fun a h=>?_
 have hd2':aA w2 W.heap.size S.tU8 v2 (be 4 ((th ver number has s body).length:Int)):=by
  rcases IG with h|⟨g,c,cur,h1,h2,h3⟩
  ·exact .inl h
  ·exact .inr ⟨g,c,cur,h1,Nat.le_trans hF.size h2,h3⟩
 refine iu (W:=W) T h (.t rfl) (.t rfl) (hF.kn Ic) hd2' ((hd.keep Ic fun _ _ h=>h).sl) (by simp only[ch];omega) (by omega) fun v w a hd hF h=>?_
 refine ae h (.t rfl) (by omega) fun a h=>wpList_nil (.ret ?_)
 exact dN (RR:=aZ S.tU8 (ry ver number has s body) W) h rfl (mt hd hF)
end
end
section
open Go
set_option maxRecDepth 4000
structure FrW (P:Program)(S:SN)(N:FN)(hf:Bool)(flex:Nat)(fs:Fds)(toff:Option Nat):Prop where
 a16E:Ent P N.fA16
 a16C:∀ (x:Int) (w:World),ApC P S.tU8 N.fA16 (.int .i16 x) (be 2 x) w
 a32E:Ent P N.fA32
 a32C:∀ (x:Int) (w:World),ApC P S.tU8 N.fA32 (.int .i32 x) (be 4 x) w
 a32I:∀ (x:Int) (w:World) (g c:Nat) (cur:Array Value),w.heap[g]?=some (.cells cur S.tU8 (0,0))->cur.size=c->4<=c ->
  Calls P N.fA32 #[.slice (some ⟨g,0,none⟩) 0 c,.int .i32 x] w fun e w'=>(∃ d',e=.returned d')/\ac (fun k=>k=g) w w'/\w'.heap[g]?=some (.cells (aD cur 0 ((be 4 x).map aJ)) S.tU8 (0,0))
 nsE:Ent P N.fANS
 ns0:∀ w:World,ApC P S.tU8 N.fANS (.pointer none) (be 2 (-1)) w
 ns1:∀ (w:World) (c:Nat) (s:Bs),w.cell? ⟨c,0,none⟩=some (strV s)->ApC P S.tU8 N.fANS (pt c 0) (be 2 (s.length:Int)++s) w
 atE:Ent P N.fAt
 atC:∀ (w:World) (L B:Nat) (ver:Int) (vs:List V) (t:List (Nat × Bs)) (d0:Value) (bs0:Bs),-32768<=ver/\ver<32768->B<L->L<=w.heap.size->w.cell? ⟨B,0,none⟩=some (.int .i16 ver)->RpF w (fun k=>L<=k) fs B 0 vs->dJ w (fun k=>L<=k) B 0 toff t ->
  aA w L S.tU8 d0 bs0->(bs0++dD false hf flex fs ver (.st vs t)).length<=di->Calls P N.fAt #[pt B 0,d0] w fun e w'=>∃ d',e=.returned d'/\Gr L S.tU8 d0 w d' (bs0++dD false hf flex fs ver (.st vs t)) w'
section
variable {P:Program} {S:SN} {N:FN}
section
variable {ops:Array Oper} {Q:Exit->Act->World->Prop} {r:List Oper} {n:Nat} {a:Act} {w W:World} {l:List (Nat × Value)}
variable {I:World->Prop} {K:Act->Prop}
theorem zX (h:St n a l){d:Nat}{x:Operand}{F E ty m c:Nat}{base:Option Addr}(hx:Hd l x (.slice base m c))(hF:P.underlying F=some (.slice E))(hd:d<n)(k:∀ a',St n a' ((d,.int .i64 (m:Int))::l)->eT P I r a' K):eT P I (bi (some d) .len [x] [F] ty::r) a K:=by
 refine⟨.int .i64 (m:Int),fun w _=>?_,k _ (h.put _ hd)⟩
 simp[execOp,bi,resolve,invoke,builtin,hx n a h,Builtin.len_,run_underlying hF,goInt]
theorem xv (h:St n a l){d:Nat}{x:Operand}{A B:Nat}{k k':IntKind}{m:Int}(hx:Hd l x (.int k m))(hA:P.underlying A=some (.int k))(hB:P.underlying B=some (.int k'))(hd:d<n)(c:∀ a',St n a' ((d,.int k' (k'.wrap m))::l)->eT P I r a' K) :
  eT P I (mk (some d) (.convert A B x)::r) a K:=qo (hx n a h) hA hB (c _ (h.put _ hd))
theorem zU (h:St n a l)(ot:OctT P S.tSl S.tU8){d:Nat}(NR:d<n)
  (c:∀ v a',aA (w.alloc (.cells #[aJ 0,aJ 0,aJ 0,aJ 0] S.tU8 (0,0))) w.heap.size S.tU8 v [0,0,0,0]->St n a' ((d,v)::l)->wpList P ops Q r a' (w.alloc (.cells #[aJ 0,aJ 0,aJ 0,aJ 0] S.tU8 (0,0)))) :
  wpList P ops Q (mk (some d) (.buildSlice S.tSl 4 #[(0,ki .u8 0),(1,ki .u8 0),(2,ki .u8 0),(3,ki .u8 0)])::r) a w:=by
 refine dK (l:=[0,0,0,0]) (ps:=[(0,ki .u8 0),(1,ki .u8 0),(2,ki .u8 0),(3,ki .u8 0)]) ot (by simp[rK,ki,dg,aJ]) (by simp) (by simp) ?_
 refine c _ _ ?_ (h.put _ NR)
 exact .inr ⟨w.heap.size,4,#[aJ 0,aJ 0,aJ 0,aJ 0],rfl,Nat.le_refl _,Go.heap_alloc_new w _,by simp,by simp[maxLen],by simp,fun i x hx=>by
  match i,hx with
  | 0,hx=>simp at hx;subst hx;rfl
  | 1,hx=>simp at hx;subst hx;rfl
  | 2,hx=>simp at hx;subst hx;rfl
  | 3,hx=>simp at hx;subst hx;rfl
  | i+4,hx=>simp at hx⟩
theorem p8 (h:St n a l){d f:Nat}{x y:Operand}{dv val:Value}{bs enc:Bs}(hf:Ent P f)(hc:ApC P S.tU8 f val enc w)(hx:Hd l x dv)(hy:Hd l y val)(hW:cz W w)(hd:aA w W.heap.size S.tU8 dv bs)(hlim:bs.length+enc.length<=di)(NR:d<n)
  (c:∀ v w' a',aA w' W.heap.size S.tU8 v (bs++enc)->cz W w'->St n a' ((d,v)::l)->wpList P ops Q r a' w'):wpList P ops Q (cl (some d) f [x,y]::r) a w:=
 aT h hf (vs:=[dv,val]) (fun n a h=>by simp[hx n a h,hy n a h]) (hc W.heap.size dv bs hd hW.size hlim) NR fun e w' hR=>by
  obtain⟨d',rfl,hg⟩:=hR
  exact⟨d',rfl,fun a' h'=>c d' w' a' hg.dst (ac.trans hW (Gr.far hd hg)) h'⟩
end
theorem pR {F E m c:Nat}{g:Nat}{a:Act}{x y:Operand}{d:Option Nat}{w:World}(hx:a.eval x=.slice (some ⟨g,0,none⟩) m c)(hy:a.eval y=.int .i64 4)(hk:4<=m)(hc:m<=c)(Pq:4<c)(hF:P.underlying F=some (.slice E))(hs:∀ w,(sizeOf E).run P w=.ok 1 w) :
  (execOp a.eval (mk d (.slice F x (some y) none none))).run P w=.ok (.value (.slice (some ⟨g,4,none⟩) (m-4) (c-4))) w:=by
 have h1:¬ (m<4):=by omega
 have h2:¬ (c<m):=by omega
 have h3:¬ (c-4=0):=by omega
 have h5:(4:Int)<=(m:Int):=by omega
 have h6:¬ (c=4):=by omega
 simp[execOp,mk,hx,hy,Instr.sliceAt,Instr.slice,run_underlying hF,Instr.sliceBounds,Instr.sliceBound,asIntOf,hs,h5,h6,Addr.add_lit]
theorem tw {hf:Bool}{flex:Nat}{fs:Fds}{toff:Option Nat}(T:FnT P S N)(H:FrW P S N hf flex fs toff)(hfn:FnIs P N.fApp 60 [8] (cFApp S N))(Jf:FnIs P N.fKey 3 [2] (cFKey S N))(Mb:FnIs P N.fGv 7 [2] (cFGv S N))(JX:FnIs P N.fIf 8 [2] (cFIf S N))
  {W:World} {F B:Nat} {fv:Value} {ver number:Int} {has:Bool} {s body:Bs} {vs:List V} {t:List (Nat × Bs)} (hver:-32768<=ver/\ver<32768) (hF:kE N W F fv) (MU:if has then ∃ c,fv=pt c 0/\W.cell? ⟨c,0,none⟩=some (strV s)else fv=.pointer none)
  (Ia:W.cell? ⟨B,0,none⟩=some (.int .i16 ver)) (hr:RpF W (fun k=>W.heap.size<=k) fs B 0 vs) (ht:dJ W (fun k=>W.heap.size<=k) B 0 toff t) (ID:dD false hf flex fs ver (.st vs t)=body) (hlim:s.length+body.length+100<=di) :
  Calls P N.fApp [pt F 0,aF,.iface N.tM (pt B 0),.int .i32 number].toArray W (aZ S.tU8 (ry ver number has s body) W):=by
 have W3:F<W.heap.size:=(Array.getElem?_eq_some_iff.1 hF).1
 have Oq:B<W.heap.size:=bP Ia
 have Tg:di<=9223372036854775807:=by decide
 have Si:(vV has s).length<=2+s.length:=by
  unfold vV
  split<;>simp only[List.length_append,ch]<;>omega
 have Sy:(vY ver).length<=1:=by
  unfold vY
  split<;>simp
 refine bJ T.tab.mixed hfn (by simp) _ (by simp) fun a h=>?_
 unfold cFApp
 refine aw (aP (ae h .c (by omega) fun a h=>wpList_nil ?_))
 refine aw (aP (ai h (.t rfl) (by omega) fun a h=>?_))
 refine zU h T.tab.oct (by omega) fun v2 a IG h=>?_
 have Ic:ac (fun _=>False) W (W.alloc (.cells #[aJ 0,aJ 0,aJ 0,aJ 0] S.tU8 (0,0))):=ac.alloc _ _ _
 generalize W.alloc (.cells #[aJ 0,aJ 0,aJ 0,aJ 0] S.tU8 (0,0))=w2 at Ic IG h ⊢
 have MG:cz W w2:=(cz.refl W).kn Ic
 refine iu (W:=W) T h (.t rfl) (.t rfl) MG (aA.nil _ _ _) IG.sl (by simp only[List.length_cons,List.length_nil];decide) (by omega) fun v w a hd Ki h=>?_
 refine ae h (.t rfl) (by omega) fun a h=>wpList_nil ?_
 rw[List.nil_append]at hd
 refine aw (aP (ai h (.t rfl) (by omega) fun a h=>ny h (args:=[]) (vs:=[]) Jf.ent T.mKey (.t rfl) (fun _ _ _=>rfl) (vQ T Jf _ w) (by omega) fun e w' hR=>?_))
 obtain⟨rfl,rfl⟩:=hR
 refine⟨_,rfl,fun a h=>ae h (.t rfl) (by omega) fun a h=>wpList_nil ?_⟩
 refine aw (aP (ai h (.t rfl) (by omega) fun a h=>ny h (args:=[]) (vs:=[]) Mb.ent T.mGv (.t rfl) (fun _ _ _=>rfl) (yL T Mb (Ki.cell Ia)) (by omega) fun e w' hR=>?_))
 obtain⟨rfl,rfl⟩:=hR
 refine⟨_,rfl,fun a h=>ae h (.t rfl) (by omega) fun a h=>wpList_nil ?_⟩
 have h:=h.pick (m:=[(0,pt F 0),(1,v),(2,.iface N.tM (pt B 0)),(3,.int .i32 number),(9,.int .i16 3),(10,.int .i16 ver)]) ⟨rfl,rfl,rfl,rfl,rfl,rfl,trivial⟩
 refine aw (aP (ai h (.t rfl) (by omega) fun a h=>ai h (.t rfl) (by omega) fun a h=>?_))
 refine p8 (W:=W) h H.a16E (H.a16C 3 w') (.t rfl) (.t rfl) Ki hd (by simp only[ch,List.length_cons,List.length_nil];decide) (by omega) fun v w a hd Ki h=>ae h (.t rfl) (by omega) fun a h=>wpList_nil ?_
 refine aw (aP (ai h (.t rfl) (by omega) fun a h=>ai h (.t rfl) (by omega) fun a h=>?_))
 refine p8 (W:=W) h H.a16E (H.a16C ver w) (.t rfl) (.t rfl) Ki hd (by simp only[ch,List.length_append,List.length_cons,List.length_nil];decide) (by omega) fun v w a hd Ki h=>ae h (.t rfl) (by omega) fun a h=>wpList_nil ?_
 refine aw (aP (ai h (.t rfl) (by omega) fun a h=>ai h (.t rfl) (by omega) fun a h=>?_))
 refine p8 (W:=W) h H.a32E (H.a32C number w) (.t rfl) (.t rfl) Ki hd (by simp only[ch,List.length_append,List.length_cons,List.length_nil];decide) (by omega) fun v w a hd Ki h=>ae h (.t rfl) (by omega) fun a h=>wpList_nil ?_
 have h:=h.pick (m:=[(0,pt F 0),(1,v),(2,.iface N.tM (pt B 0)),(9,.int .i16 3),(10,.int .i16 ver)]) ⟨rfl,rfl,rfl,rfl,rfl,trivial⟩
 refine aw (aw (aP (ai h (.t rfl) (by omega) fun a h=>br h rfl (.t rfl) .i (by omega) fun a h=>?_)))
 rw[show aW .eql (3:Int) 7=false from by decide]at h
 refine ai h (.t rfl) (by omega) fun a h=>aM h rfl rfl rfl (by omega) (by simp) (by omega) fun a h=>aM h rfl rfl rfl (by omega) (by simp) (by omega) fun a h=>cr h (.t rfl) (.t rfl) .c (by omega) fun a h=>wpList_nil ?_
 refine bn h (b:=false) rfl (fun hh=>by cases hh) (fun _=>.skip ?_)
 have h:=h.pick (m:=[(0,pt F 0),(1,v),(2,.iface N.tM (pt B 0))]) ⟨rfl,rfl,rfl,trivial⟩
 have hFw:w.cell? ⟨F,0,none⟩=some fv:=by
  have hb:w.heap[F]?=some (.cells #[fv] N.tFr (0,0)):=by rw[Ki.block F W3 (by omega)];exact hF
  simp[World.cell?,hb]
 have UZ:ApC P S.tU8 N.fANS fv (vV has s) w:=by
  cases has with
  | true=>
   rw[if_pos rfl]at MU
   obtain⟨c,rfl,hc⟩:=MU
   exact H.ns1 w c s (Ki.cell hc)
  | false=>
   rw[if_neg (by simp)]at MU
   subst MU
   exact H.ns0 w
 refine aw (aP (ai h (.t rfl) (by omega) fun a h=>ai h (.t rfl) (by omega) fun a h=>pC h (.t rfl) (by omega) fun a h=>bO h (.t rfl) T.r0 (by omega) fun a h=>aU h (.t rfl) T.r0.var hFw (by omega) fun a h=>?_))
 refine p8 (W:=W) h H.nsE UZ (.t rfl) (.t rfl) Ki hd (by simp only[ch,List.length_append,List.length_cons,List.length_nil];omega) (by omega) fun v w a hd Ki h=>ae h (.t rfl) (by omega) fun a h=>wpList_nil ?_
 have h:=h.pick (m:=[(1,v),(2,.iface N.tM (pt B 0))]) ⟨rfl,rfl,trivial⟩
 refine HB (K:=fun a w=>∃ v,aA w W.heap.size S.tU8 v ([0,0,0,0]++be 2 3++be 2 ver++be 4 number++vV has s++vY ver)/\cz W w/\St 60 a [(1,v),(2,.iface N.tM (pt B 0))]) ?_ ?_
 ·refine aw (aP (ai h (.t rfl) (by omega) fun a h=>ny h (args:=[]) (vs:=[]) JX.ent T.mIf (.t rfl) (fun _ _ _=>rfl) (yH T JX (Ki.cell Ia)) (by omega) fun e w' hR=>?_))
  obtain⟨rfl,rfl⟩:=hR
  refine⟨_,rfl,fun a h=>wpList_nil ?_⟩
  refine bn h rfl (fun hh=>?_) (fun hh=>?_)
  ·refine aw (aP (ae h .i (by omega) fun a h=>wpList_nil ?_))
   refine aw (aP (ai h (.t rfl) (by omega) fun a h=>ai h (.t rfl) (by omega) fun a h=>?_))
   refine kZ (b:=0) h T.tab.oct (.t rfl) (by omega) fun v2 a IG h=>?_
   have Ic:ac (fun _=>False) w' (w'.alloc (.cells #[aJ 0] S.tU8 (0,0))):=ac.alloc _ _ _
   generalize w'.alloc (.cells #[aJ 0] S.tU8 (0,0))=w2 at Ic IG h ⊢
   refine iu (W:=W) T h (.t rfl) (.t rfl) (Ki.kn Ic) (hd.keep Ic fun _ _ h=>h) IG.sl (by simp only[ch,List.length_append,List.length_cons,List.length_nil];omega) (by omega) fun v w a hd hF h=>?_
   refine ae h (.t rfl) (by omega) fun a h=>wpList_nil ?_
   refine aw (aP (ai h (.t rfl) (by omega) fun a h=>br h rfl (.t rfl) .i (by omega) fun a h=>wpList_nil ?_))
   refine bn h rfl (fun _=>.skip ?_) (fun _=>.skip ?_)
   all_goals
    refine⟨v,?_,hF,h.pick ⟨rfl,rfl,trivial⟩⟩
    have h9:9<=ver:=of_decide_eq_true hh
    simpa only[vY,if_pos h9]using hd
  ·refine .skip ⟨v,?_,Ki,h.pick ⟨rfl,rfl,trivial⟩⟩
   have h9:¬ 9<=ver:=of_decide_eq_false hh
   simpa only[vY,if_neg h9,List.append_nil]using hd
 rintro a w ⟨v,hd,Ki,h⟩
 have hblk:=Ki.block B Oq (by omega)
 have IP:=H.atC w W.heap.size B ver vs t v _ hver Oq Ki.size (Ki.cell Ia) (hr.far Ki Oq (Nat.le_refl _)) (ht.far Ki Oq (Nat.le_refl _)) hd (by rw[ID];simp only[ch,List.length_append,List.length_cons,List.length_nil];omega)
 rw[ID]at IP
 refine aw (aP (ai h (.t rfl) (by omega) fun a h=>ai h (.t rfl) (by omega) fun a h=>ny h (args:=[tm 50]) (vs:=[v]) H.atE T.mAt (.t rfl) (fun n a h=>by simp[Hd.t (l:=_) (i:=50) rfl _ _ h]) IP (by omega) fun e w1 hR=>?_))
 obtain⟨v1,rfl,hg⟩:=hR
 refine⟨_,rfl,fun a h=>ae h (.t rfl) (by omega) fun a h=>wpList_nil ?_⟩
 have QX:cz W w1:=ac.trans Ki (Gr.far hd hg)
 have Ks:aA w1 W.heap.size S.tU8 v1 ([0,0,0,0]++th ver number has s body):=by
  have:=hg.dst
  simpa only[th,List.append_assoc]using this
 have hI:(th ver number has s body).length<=s.length+body.length+11:=by
  simp only[th,List.length_append,ch];omega
 have Tl:8<=(th ver number has s body).length:=by
  simp only[th,List.length_append,ch];omega
 unfold ry
 generalize th ver number has s body=fr at Ks hI Tl ⊢
 rcases Ks with⟨_,hh⟩|⟨g,c,cur,rfl,Qj,No,Pg,Kt,Iz,Wj⟩
 ·simp at hh
 have RO:(([0,0,0,0]:Bs)++fr).length=4+fr.length:=by simp;omega
 rw[RO]at Pg h
 have h:=h.pick (m:=[(1,.slice (some ⟨g,0,none⟩) (4+fr.length) c)]) ⟨rfl,trivial⟩
 refine aw (vI [false,false,false,false,false,false,true] (fun w'=>cz W w') (by kernel_rfl) ?_)
 show eT P _ [mk (some 52) (.move (tm 1)),mk (some 53) (.slice S.tSl (tm 52) none (some (ki .i64 0)) none),mk (some 54) (.move (tm 1)),mk (some 55) (.slice S.tSl (tm 54) (some (ki .i64 4)) none none),bi (some 56) .len [(tm 55)] [S.tSl] S.tInt,mk (some 57) (.convert S.tInt N.tI32 (tm 56))] a
  fun af=>eg P _ _ [cl (some 58) N.fA32 [(tm 53),(tm 57)]] af w1.drew
 refine dz h (.t rfl) (by omega) fun a h=>?_
 refine⟨.slice (some ⟨g,0,none⟩) 0 c,fun w' _=>ml (k:=0) (Hd.t (i:=52) rfl _ _ h) (by simp[dg,ki]) (by omega) (fun hh=>by cases hh) T.tab.oct.und T.tab.vU8.size,?_⟩
 have h:=h.put (d:=53) (.slice (some ⟨g,0,none⟩) 0 c) (by omega)
 show eT P _ _ (a.put (some 53) (.slice (some ⟨g,0,none⟩) 0 c)) _
 generalize a.put (some 53) (.slice (some ⟨g,0,none⟩) 0 c)=a at h ⊢
 refine dz h (.t rfl) (by omega) fun a h=>?_
 refine⟨.slice (some ⟨g,4,none⟩) (4+fr.length-4) (c-4),fun w' _=>pR (Hd.t (i:=54) rfl _ _ h) (by simp[dg,ki]) (by omega) (by omega) (by omega) T.tab.oct.und T.tab.vU8.size,?_⟩
 rw[show 4+fr.length-4=fr.length by omega]
 have h:=h.put (d:=55) (.slice (some ⟨g,4,none⟩) fr.length (c-4)) (by omega)
 show eT P _ _ (a.put (some 55) (.slice (some ⟨g,4,none⟩) fr.length (c-4))) _
 generalize a.put (some 55) (.slice (some ⟨g,4,none⟩) fr.length (c-4))=a at h ⊢
 refine zX h (.t rfl) T.tab.oct.und (by omega) fun a h=>xv h (.t rfl) T.tab.dInt T.dI32 (by omega) fun a h=>?_
 have XL:cz W w1.drew:=ac.trans QX (ac.drew _ _)
 have OF:=H.a32I (IntKind.i32.wrap (fr.length:Int)) w1.drew g c cur No Iz (by omega)
 rw[io (k:=.i32) (.inr (.inr (.inl ⟨.inl rfl,rfl⟩)))]at OF
 refine fJ h XL (vs:=[.slice (some ⟨g,0,none⟩) 0 c,.int .i32 (IntKind.i32.wrap (fr.length:Int))]) H.a32E (fun n a h=>by simp[Hd.t (l:=_) (i:=53) rfl _ _ h,Hd.t (l:=_) (i:=57) rfl _ _ h]) OF (by omega) fun e w3 hR=>?_
 obtain⟨⟨d',rfl⟩,Il,I2⟩:=hR
 have QW:cz W w3:=XL.up Il fun i hi=>by omega
 refine⟨d',rfl,fun a h=>ku QW ?_⟩
 have Ii:0+((be 4 (fr.length:Int)).map aJ).length<=cur.size:=by rw[List.length_map,ch];omega
 have J9:aA w3 W.heap.size S.tU8 (.slice (some ⟨g,0,none⟩) (4+fr.length) c) (be 4 (fr.length:Int)++fr):=by
  refine .inr ⟨g,c,_,by rw[List.length_append,ch],Qj,I2,by rw[List.length_append,ch];exact Pg,Kt,by rw[da Ii];exact Iz,fun i x hi=>?_⟩
  by_cases h4:i<4
  ·have e:=bA Ii i (by rw[List.length_map,ch];exact h4)
   rw[Nat.zero_add]at e
   rw[List.getElem?_append_left (by rw[ch];exact h4)]at hi
   rw[e,List.getElem?_map,hi]
   rfl
  ·rw[bV Ii i (.inr (by rw[List.length_map,ch];omega))]
   refine Wj i x ?_
   rw[List.getElem?_append_right (by rw[ch];omega),ch]at hi
   rw[List.getElem?_append_right (by simp;omega)]
   exact hi
 refine aw (aP (ai h (.t rfl) (by omega) fun a h=>ae h (.t rfl) (by omega) fun a h=>wpList_nil (.ret ?_)))
 exact dN (RR:=aZ S.tU8 (be 4 (fr.length:Int)++fr) W) h rfl (mt J9 QW)
end
end
section
open Go
set_option maxRecDepth 4000
section
variable {P:Program} {S:SN} {N:FN}
theorem aA.low {w:World}{L L' te:Nat}{d:Value}{bs:Bs}(h:aA w L te d bs)(hL:L'<=L):aA w L' te d bs:=by
 rcases h with h|⟨g,c,cur,h1,h2,h3⟩
 ·exact .inl h
 ·exact .inr ⟨g,c,cur,h1,Nat.le_trans hL h2,h3⟩
theorem AP {n s t:Nat}{a:Act}{w:World}{l:List (Nat × Value)}{u v:Value}{RR:Ending->World->Prop}(h:St n a l)(hu:l.lookup s=some u)(hv:l.lookup t=some v)(hR:RR (.returned (.tuple #[u,v])) w):a.defers=[]/\RR (.returned (bj [s,t] a)) w:=by
 refine⟨h.defers,?_⟩
 show RR (.returned (.tuple #[a.get s,a.get t])) w
 rw[h.get s u hu,h.get t v hv]
 exact hR
structure FrF (P:Program)(S:SN)(N:FN):Prop where
 app:FnIs P N.fApp 60 [8] (cFApp S N)
 key:FnIs P N.fKey 3 [2] (cFKey S N)
 gv:FnIs P N.fGv 7 [2] (cFGv S N)
 isF:FnIs P N.fIf 8 [2] (cFIf S N)
 new:FnIs P N.fNew 18 [2] (cFNew S N)
 ap:FnIs P N.fAp 8 [] (cFAp S N)
 cl:FnIs P N.fCl 6 [] (cFCl S N)
 cid:FnIs P N.fCid 6 [2] (cFCid S N)
 frd:FnIs P N.fFrd 24 [8] (cFFrd S N)
theorem qm {hf:Bool}{flex:Nat}{fs:Fds}{toff:Option Nat}(T:FnT P S N)(H:FrW P S N hf flex fs toff)(G:FrF P S N){W:World}{B:Nat}{ver number:Int}{has:Bool}{s body:Bs}{vs:List V}{t:List (Nat × Bs)}(hver:-32768<=ver/\ver<32768)
  (Ia:W.cell? ⟨B,0,none⟩=some (.int .i16 ver)) (hr:RpF W (fun k=>W.heap.size<=k) fs B 0 vs) (ht:dJ W (fun k=>W.heap.size<=k) B 0 toff t) (ID:dD false hf flex fs ver (.st vs t)=body) (hlim:s.length+body.length+100<=di) :
  Calls P N.fFrd [aF,.agg [.bool has,strV s].toArray,.iface N.tM (pt B 0),.int .i32 number].toArray W (aZ S.tU8 (ry ver number has s body) W):=by
 have Oq:B<W.heap.size:=bP Ia
 refine bJ T.tab.mixed G.frd (by simp) _ (by simp) fun a h=>?_
 unfold cFFrd
 refine aw (aP (dx h (.t rfl) (by omega) fun a h=>ae h .c (by omega) fun a h=>wpList_nil ?_))
 have hk:ac (fun _=>False) W (W.alloc (.cells [Value.bool has,strV s].toArray N.tId (0,0))):=ac.alloc _ _ _
 have hc:=bB W [Value.bool has,strV s] N.tId
 generalize W.alloc (.cells [Value.bool has,strV s].toArray N.tId (0,0))=w1 at hk hc ⊢
 refine aw (aP (aT h G.new.ent (vs:=[aF]) (fun _ _ _=>rfl) (sN T G.new w1) (by omega) fun e w2 hR=>?_))
 obtain⟨rfl,Ic,_,MG⟩:=hR
 refine⟨_,rfl,fun a h=>ae h (.t rfl) (by omega) fun a h=>wpList_nil ?_⟩
 have hc:=au.kn Ic hc
 have hk:=hk.trans Ic
 refine HB (K:=fun a w=>∃ F fv,ac (fun _=>False) W w/\kE N w F fv/\(if has then ∃ c,fv=pt c 0/\w.cell? ⟨c,0,none⟩=some (strV s)else fv=.pointer none)/\St 24 a [(0,aF),(2,.iface N.tM (pt B 0)),(3,.int .i32 number),(9,pt F 0)]) ?_ ?_
 ·refine aw (aP (bO h (.t rfl) T.i0 (by omega) fun a h=>aU h (.t rfl) T.i0.var (hc.at (j:=0) rfl) (by omega) fun a h=>wpList_nil ?_))
  refine bn h rfl (fun hh=>?_) (fun hh=>?_)
  ·refine aP (bO h (.t rfl) T.i1 (by omega) fun a h=>aU h (.t rfl) T.i1.var (hc.at (j:=1) rfl) (by omega) fun a h=>?_)
   refine aT h G.cid.ent (vs:=[strV s]) (fun n a h=>by simp[Hd.t (l:=_) (i:=14) rfl _ _ h]) (wh T G.cid s w2) (by omega) fun e w3 hR=>?_
   obtain⟨rfl,rfl⟩:=hR
   refine⟨_,rfl,fun a h=>?_⟩
   have Il:ac (fun _=>False) w2 (w2.alloc (.cells #[strV s] N.tStr (0,0))):=ac.alloc _ _ _
   have IJ:(w2.alloc (.cells #[strV s] N.tStr (0,0))).cell? ⟨w2.heap.size,0,none⟩=some (strV s):=lC w2 [strV s] N.tStr (o:=0) rfl
   generalize w2.alloc (.cells #[strV s] N.tStr (0,0))=w3 at Il IJ ⊢
   refine nx h (v:=.slice (some ⟨w3.heap.size,0,none⟩) 1 1) (w':=w3.alloc (.cells #[.iface N.tFo (lA N w2.heap.size)] N.tOpt (0,0))) (by
    have e:=Hd.t (l:=_) (i:=15) rfl _ _ h
    simp[execOp,mk,e,lA,T.bOp]) (by omega) fun a h=>?_
   have It:ac (fun _=>False) w3 (w3.alloc (.cells #[.iface N.tFo (lA N w2.heap.size)] N.tOpt (0,0))):=ac.alloc _ _ _
   have Kb:(w3.alloc (.cells #[.iface N.tFo (lA N w2.heap.size)] N.tOpt (0,0))).cell? ⟨w3.heap.size,0,none⟩=some (.iface N.tFo (lA N w2.heap.size)):=lC w3 [.iface N.tFo (lA N w2.heap.size)] N.tOpt (o:=0) rfl
   generalize w3.alloc (.cells #[.iface N.tFo (lA N w2.heap.size)] N.tOpt (0,0))=w4 at It Kb ⊢
   refine aT h G.new.ent (vs:=[.slice (some ⟨w3.heap.size,0,none⟩) 1 1]) (fun n a h=>by simp[Hd.t (l:=_) (i:=16) rfl _ _ h]) (sM T G.new G.ap G.cl Kb) (by omega) fun e w5 hR=>?_
   obtain⟨rfl,Jc,_,hF5⟩:=hR
   refine⟨_,rfl,fun a h=>ae h (.t rfl) (by omega) fun a h=>wpList_nil ⟨w4.heap.size,pt w2.heap.size 0,((hk.trans Il).trans It).trans Jc,hF5,?_,h.pick ⟨rfl,rfl,rfl,rfl,trivial⟩⟩⟩
   rw[if_pos hh]
   exact⟨_,rfl,ac.cell (It.trans Jc) id IJ⟩
  ·refine .skip ⟨w1.heap.size,.pointer none,hk,MG,?_,h.pick ⟨rfl,rfl,rfl,rfl,trivial⟩⟩
   rw[hh]
   simp
 rintro a w ⟨F,fv,hk,hF,MU,h⟩
 have Xr:ac (fun k=>W.heap.size<=k) W w:=hk.mono fun _ _ h=>h.elim
 have hz:=hk.size
 refine aw (aP (ai h (.t rfl) (by omega) fun a h=>ai h (.t rfl) (by omega) fun a h=>?_))
 refine qG h (v:=aF) (w':=w) (by
  have e:=Hd.t (l:=_) (i:=19) (v:=aF) rfl _ _ h
  have Im:=jm (tx:=S.tSl) (ty:=S.tSl) T.tab.oct (p9 T.tab.oct w 0)
  simp only[aF]at e Im ⊢
  simp[execOp,bi,resolve,invoke,builtin,e,dg,Im]) (by omega) fun a h=>?_
 refine ai h (.t rfl) (by omega) fun a h=>ai h (.t rfl) (by omega) fun a h=>?_
 refine aT h G.app.ent (vs:=[pt F 0,aF,.iface N.tM (pt B 0),.int .i32 number]) (fun n a h=>by
   simp[Hd.t (l:=_) (i:=18) rfl _ _ h,Hd.t (l:=_) (i:=20) rfl _ _ h,Hd.t (l:=_) (i:=21) rfl _ _ h,Hd.t (l:=_) (i:=22) rfl _ _ h])
  (tw T H G.app G.key G.gv G.isF hver hF MU (ac.cell hk id Ia) (RpF.mono (fun k J1 hX=>by omega) fs B 0 vs (hr.far Xr Oq (Nat.le_refl _))) ((ht.far Xr Oq (Nat.le_refl _)).mono fun k J1 hX=>by omega) ID hlim) (by omega) fun e w' hR=>?_
 obtain⟨v,rfl,hv,J1⟩:=hR
 refine⟨_,rfl,fun a h=>ae h (.t rfl) (by omega) fun a h=>wpList_nil (.ret ?_)⟩
 exact dN (RR:=aZ S.tU8 (ry ver number has s body) W) h rfl ⟨v,rfl,hv.low hz,hk.trans J1⟩
end
end
end Go.Proofs.YtpoeajgpacfpoaaGreatDoor.Kx