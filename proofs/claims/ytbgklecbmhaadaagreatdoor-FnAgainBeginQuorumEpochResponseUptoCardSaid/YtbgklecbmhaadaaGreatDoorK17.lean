/-
  PLAIN LAWS AND CONTRACTS of messages, part 17.
-/
import Derived.Test.YtbgklecbmhaadaaGreatDoorK13

namespace Go.Proofs.YtbgklecbmhaadaaGreatDoor.Kx
open Go
section
open Go
set_option maxRecDepth 100000
structure KE where
 fK:Nat
 fB:Nat
 fA:Nat
 fN:Nat
 fRd:Nat
 fAp:Nat
 fDf:Nat
 tM:Nat
 tE:Nat
 most:Int
def F0 (_S:SN)(N:KE):List Oper:=[mk (some 0) (.alloc N.tM)]
def Fz (_S:SN)(N:KE):List Oper:=[mk (some 1) (.alloc N.tM)]
def Fy (_S:SN)(N:KE):List Oper:=[cl (some 2) N.fDf [(tm 1)]]
def Fx (_S:SN)(N:KE):List Oper:=[mk (some 3) (.load N.tM (tm 1)),mk none (.store N.tM (tm 0) (tm 3))]
def cNwv (S:SN)(N:KE):Code:=
 (.seq (rg (F0 S N))
 (.seq (rg (Fz S N))
 (.seq (rg (Fy S N))
 (.seq (rg (Fx S N))
 .ret))))
end
section
open Go
set_option maxRecDepth 4000
section
variable {P:Program} {S:SN} {N:KE}
def NwC (P:Program)(fN:Nat)(z:Array Value):Prop:=∀ w,Calls P fN ([]:List Value).toArray w fun e w'=>e=.returned (.agg z)/\ac (fun _=>False) w w'
theorem nwv_calls (hm:P.follows .mixedOrders=true){z:Array Value}{zv:Value}{wr:List (Nat × Value)}{n:Nat}(hfn:FnIsC P N.fN 4 0 N.tM (cNwv S N))(zM:∀ w,(zeroValue N.tM).run P w=.ok zv w)(hE:Ent P N.fDf)(hD:DfC P N.fDf wr)(Hn:∀ p∈wr,p.1<zv.cells.size)(hz:z=applyWr zv.cells 0 wr)
  (vM:bd P N.tM true n) (hn:z.size=n) (GG:∀ u∈z.toList,u.oneCell'=true) (IE:zv.cells.size=n):NwC P N.fN z:=by
 intro w
 refine mS hm hfn [] (by simp) fun a h=>?_
 unfold cNwv
 refine aw (aW (eM h (zM w) (by omega) fun a h=>wpList_nil ?_))
 have J1:=aB w (.cells zv.cells N.tM (0,0))
 have Hk:ac (fun _=>False) w (w.alloc (.cells zv.cells N.tM (0,0))):=ac.alloc _ _ _
 have PC:(w.alloc (.cells zv.cells N.tM (0,0))).heap.size=w.heap.size+1:=by simp
 generalize w.alloc (.cells zv.cells N.tM (0,0))=w1 at J1 Hk PC ⊢
 refine aw (aW (eM h (zM w1) (by omega) fun a h=>wpList_nil ?_))
 have If:=aB w1 (.cells zv.cells N.tM (0,0))
 have Gy:ac (fun _=>False) w1 (w1.alloc (.cells zv.cells N.tM (0,0))):=ac.alloc _ _ _
 have MS:(w1.alloc (.cells zv.cells N.tM (0,0))).heap.size=w1.heap.size+1:=by simp
 generalize w1.alloc (.cells zv.cells N.tM (0,0))=w2 at If Gy MS ⊢
 refine aw (aW (br h hE (vs:=[pt w1.heap.size 0]) (fun n a h=>by
  simp only[List.map_cons,List.map_nil]
  rw[Hd.t (l:=_) (i:=1) rfl n a h]) (hD _ w1.heap.size 0 zv.cells N.tM If (fun p hp=>by simpa using Hn p hp)) (by omega) fun e w3 hR=>⟨_,hR.1,fun a h=>wpList_nil ?_⟩))
 obtain⟨_,Gx,JJ⟩:=hR
 have UC:w3.heap[w1.heap.size]?=some (.cells z N.tM (0,0)):=by rw[JJ,hz]
 have P7:w3.heap[w.heap.size]?=some (.cells zv.cells N.tM (0,0)):=by rw[Gx.block _ (by omega) (by omega),Gy.block _ (by omega) id];exact J1
 have Kd:ao w3 w1.heap.size 0 z.toList:=fun j c hj=>by
  simp only[World.cell?,UC,Option.isSome_none,Bool.false_eq_true,if_false,Nat.zero_add]
  simpa using hj
 have MR:z.toList.length=n:=by simpa using hn
 have Jy:Value.agg z.toList.toArray=.agg z:=by simp
 refine aw (aW (ck h (cs:=z.toList) (.t rfl) (by rw[MR];exact vM) Kd (by omega) fun a h=>?_))
 refine fr h (cs:=z.toList) (v:=.agg z.toList.toArray) (.t rfl) (.t rfl) (by simp[Value.cells]) (by rw[MR];exact vM.size) P7 (by rw[MR];exact IE) GG (wpList_nil ?_)
 have K5:=setRow_heap _ _ _ z.toList.toArray _ _ P7
 refine .ret ⟨h.defers,⟨w.heap.size,0,none⟩,.agg z.toList.toArray,h.get 0 _ rfl,?_,by rw[Jy],?_⟩
 ·have JW:=run_loadCells_list (P:=P) (w3.setRow w.heap.size z.toList.toArray) ⟨w.heap.size,0,none⟩ z.toList (fun j c hj=>by
   rw[Addr.add_lit]
   simp only[World.cell?,K5,Option.isSome_none,Bool.false_eq_true,if_false,Nat.zero_add]
   simpa using hj)
  rw[MR]at JW
  simp[loadVar,vM.agg,vM.size,JW]
 ·have hk:ac (fun k=>w.heap.size<=k) w (w3.setRow w.heap.size z.toList.toArray):=((((Hk.trans Gy).mono fun _ _ h=>h.elim).trans (Gx.mono fun k _ hk=>by omega))).trans (ac.setRow _ _ _ _ (Nat.le_refl _))
  exact hk.mono fun k hk hX=>by omega
end
end
section
open Go
set_option maxRecDepth 4000
structure ZT where
 tTags:Nat
 tM:Nat
 tB:Nat
 tInt:Nat
 tN:Nat
def cTS (z:ZT)(body:Code):Code:=
 .seq (rg [mk (some 2) (.box z.tTags (tm 0)),mk (some 3) (.box z.tTags (tm 1)),mk (some 4) (.assign (.const (.bool false)))])
 (.seq (.seq (rg [mk (some 9) (.fieldAddr z.tTags (tm 2) 0),mk (some 10) (.load z.tM (tm 9)),mk (some 11) (.binOp .eql z.tM (tm 10) (.const (.map none)) 0),mk (some 12) (.fieldAddr z.tTags (tm 3) 0),mk (some 13) (.load z.tM (tm 12)),mk (some 14) (.binOp .eql z.tM (tm 13) (.const (.map none)) 0),mk (some 15) (.binOp .neq z.tB (tm 11) (tm 14) 0),mk (some 16) (.move (tm 15)),
   gd 17 (.fieldAddr z.tTags (tm 2) 0) 7 false, gd 18 (.load z.tM (tm 17)) 7 false, ⟨some 19, .call ⟨.builtin .len, #[tm 18], #[z.tM]⟩, z.tInt, "", #[], some (7, false)⟩, gd 20 (.fieldAddr z.tTags (tm 3) 0) 7 false, gd 21 (.load z.tM (tm 20)) 7 false, ⟨some 22, .call ⟨.builtin .len, #[tm 21], #[z.tM]⟩, z.tInt, "", #[], some (7, false)⟩, gd 23 (.binOp .neq z.tInt (tm 19) (tm 22) 0) 7 false, mk (some 24) (.pick (tm 16) (.const (.bool true)) (tm 23))])
  (.cond (tm 24) (.seq (rg [mk (some 4) (.assign (.const (.bool false)))]) .ret) .skip))
 (.seq (.seq (rg [mk (some 25) (.fieldAddr z.tTags (tm 2) 0),mk (some 26) (.load z.tM (tm 25)),mk (some 27) (.range z.tM (tm 26))])
  (.block 0 (.loop (.seq (rg [⟨some 28, .next (tm 27) false, z.tN, "", #[], none⟩, mk (some 29) (.extract (tm 28) 0)]) (.seq (.cond (tm 29) .skip (.exit 0)) (.block 1 body))))))
 (.seq (rg [mk (some 4) (.assign (.const (.bool true)))]) .ret)))
def tsBody (c:Option Code):Code:=match c with
 | some (.seq _ (.seq _ (.seq (.seq _ (.block _ (.loop (.seq _ (.seq _ (.block _ b)))))) _)))=>b
 | _=>.skip
section
variable {P:Program} {S:SN}
theorem u4 {ops:Array Oper}{Q:Exit->Act->World->Prop}{r:List Oper}{o:Oper}{d j:Nat}{b c:Bool}{a:Act}{w:World}(hg:o.guard=some (j,b))(Iq:o.dst=some d)(hy:yielded ops a.tmps j=some c)(hc:c≠b)(h:wpList P ops Q r (a.put (some d) undef) w):wpList P ops Q (o::r) a w:=by
 unfold wpList
 rw[if_neg (by simp[Region.wanted,hg,hy,hc]),Iq]
 exact h
theorem At {ops : Array Oper} {Q : Exit -> Act -> World -> Prop} {r : List Oper} {d ty : Nat} {x : Operand} {v : Value} {a : Act} {w : World} (hx : (execOp a.eval (⟨some d, .next x false, ty, "", #[], none⟩ : Oper)).run P w = .ok (.value v) w) (h : wpList P ops Q r (a.put (some d) v) w) : wpList P ops Q (⟨some d, .next x false, ty, "", #[], none⟩ :: r) a w := by
 unfold wpList
 rw[if_pos (by simp[Region.wanted])]
 refine .inl ?_
 unfold Oper.wp
 rw[hx]
 exact h
theorem xz {ops:Array Oper}{Q:Exit->Act->World->Prop}{r:List Oper}{d j kt et tM ty:Nat}{b:Bool}{x:Operand}{a:Act}{w:World}(hy:yielded ops a.tmps j=some b)(hM:P.underlying tM=some (.map kt et))(hx:a.eval x=.map none)
  (h : wpList P ops Q r (a.put (some d) (.int .i64 0)) w) : wpList P ops Q (⟨some d, .call ⟨.builtin .len, #[x], #[tM]⟩, ty, "", #[], some (j, b)⟩ :: r) a w := by
 unfold wpList
 rw[if_pos (by simp[Region.wanted,hy])]
 refine .inl ?_
 unfold Oper.wp
 have : (execOp a.eval (⟨some d, .call ⟨.builtin .len, #[x], #[tM]⟩, ty, "", #[], some (j, b)⟩ : Oper)).run P w = .ok (.value (.int .i64 0)) w := by
  simp[execOp,resolve,invoke,hx,builtin,Builtin.len_,run_underlying hM,goInt]
 rw[this]
 exact h
theorem oR {ops:Array Oper}{Q:Exit->Act->World->Prop}{r:List Oper}{n d tM kt et:Nat}{a:Act}{w:World}{l:List (Nat × Value)}(h:St n a l){x:Operand}{m:Option Nat}(hM:P.underlying tM=some (.map kt et))(hx:Hd l x (.map m))(hd:d<n)
  (c:∀ a',St n a' ((d,.bool m.isNone)::l)->wpList P ops Q r a' w):wpList P ops Q (mk (some d) (.binOp .eql tM x (.const (.map none)) 0)::r) a w:=oG hM (hx n a h) (c _ (h.put _ hd))
theorem AC {ops:Array Oper}{Q:Exit->Act->World->Prop}{r:List Oper}{n d tB:Nat}{a:Act}{w:World}{l:List (Nat × Value)}(h:St n a l){x y:Operand}{p q:Bool}(hB:P.underlying tB=some .bool)(hx:Hd l x (.bool p))(hy:Hd l y (.bool q))(hd:d<n)
  (c:∀ a',St n a' ((d,.bool (p != q))::l)->wpList P ops Q r a' w):wpList P ops Q (mk (some d) (.binOp .neq tB x y 0)::r) a w:=by
 refine aD ?_ (c _ (h.put _ hd))
 have he:(eqGuard .neq tB x y (.bool p) (.bool q)).run P w=.ok () w:=by simp[eqGuard]
 have hb:(binOp .neq tB (.bool p) (.bool q)).run P w=.ok (.bool (p != q)) w:=by
  simp only[binOp,Op.equal,Op.maxDepth,Sem.run_bind,run_equalIn_bool w 9999 tB p q hB,Result.andThen_ok,Sem.run_pure]
  rfl
 simp only[execOp,mk,hx n a h,hy n a h,Sem.run_bind,he,hb,Result.andThen_ok,Sem.run_pure]
def TsC (P:Program)(f:Nat):Prop:=∀ (w:World) (m:Option Nat),Calls P f ([.agg #[.map m],.agg #[.map none]]:List Value).toArray w fun e w'=>ac (fun _=>False) w w'/\e=.returned (.bool m.isNone)
theorem ts_calls (hm:P.follows .mixedOrders=true){f:Nat}{z:ZT}{body:Code}{kt et:Nat}(hfn:FnIs P f 56 [4] (cTS z body))(hM:P.underlying z.tM=some (.map kt et))(hB:P.underlying z.tB=some .bool)(hF:bp P z.tTags 0 z.tM 0 false 1):TsC P f:=by
 intro w m
 refine dm hm hfn (by simp) _ (by simp) fun a h=>?_
 unfold cTS
 refine aw (aW (dG (cs:=[.map m]) h (.t rfl) (by omega) fun a h=>?_))
 have Hc:=aB w (.cells #[.map m] z.tTags (0,0))
 have Gy:ac (fun _=>False) w (w.alloc (.cells #[.map m] z.tTags (0,0))):=ac.alloc _ _ _
 have MS:(w.alloc (.cells #[.map m] z.tTags (0,0))).heap.size=w.heap.size+1:=by simp
 show wpList P _ _ _ _ (w.alloc (.cells #[.map m] z.tTags (0,0)))
 generalize w.alloc (.cells #[.map m] z.tTags (0,0))=w1 at Hc Gy MS ⊢
 refine dG (cs:=[.map none]) h (.t rfl) (by omega) fun a h=>?_
 have Hj:=aB w1 (.cells #[.map none] z.tTags (0,0))
 have Gs:ac (fun _=>False) w1 (w1.alloc (.cells #[.map none] z.tTags (0,0))):=ac.alloc _ _ _
 show wpList P _ _ _ _ (w1.alloc (.cells #[.map none] z.tTags (0,0)))
 generalize w1.alloc (.cells #[.map none] z.tTags (0,0))=w2 at Hj Gs ⊢
 have GZ:w2.cell? ⟨w.heap.size,0+0,none⟩=some (.map m):=by
  have:w2.heap[w.heap.size]?=some (.cells #[.map m] z.tTags (0,0)):=by rw[Gs.block _ (by omega) id];exact Hc
  simp[World.cell?,this]
 have GX:w2.cell? ⟨w1.heap.size,0+0,none⟩=some (.map none):=by simp[World.cell?,Hj]
 have GN:=Gy.trans Gs
 refine ah h .c (by omega) fun a h=>wpList_nil ?_
 have h:St 56 a [(2,pt w.heap.size 0),(3,pt w1.heap.size 0)]:=h.pick ⟨rfl,rfl,trivial⟩
 refine aw (aw (aW (bk h (.t rfl) hF (by omega) fun a h=>aN h (.t rfl) hF.var GZ (by omega) fun a h=>oR h hM (.t rfl) (by omega) fun a h=>bk h (.t rfl) hF (by omega) fun a h=>aN h (.t rfl) hF.var GX (by omega) fun a h=>oR h hM (.t rfl) (by omega) fun a h=>AC h hB (.t rfl) (.t rfl) (by omega) fun a h=>al h (.t rfl) (by omega) fun a h=>?_)))
 cases m with
 | some r=>
  have h:St 56 a [(15,.bool true),(16,.bool true)]:=h.pick ⟨rfl,rfl,trivial⟩
  refine aS h (b':=true) rfl rfl rfl (by omega) (by simp) (by omega) fun a h=>aS h (b':=true) rfl rfl rfl (by omega) (by simp) (by omega) fun a h=>?_
  refine u4 rfl rfl (bY rfl rfl (by rw[h.size];omega) (h.get 16 (.bool true) rfl)) (by simp) ?_
  have h:=h.put (d:=19) undef (by omega)
  generalize a.put (some 19) undef=a at h ⊢
  refine aS h (b':=true) rfl rfl rfl (by omega) (by simp) (by omega) fun a h=>aS h (b':=true) rfl rfl rfl (by omega) (by simp) (by omega) fun a h=>?_
  refine u4 rfl rfl (bY rfl rfl (by rw[h.size];omega) (h.get 16 (.bool true) rfl)) (by simp) ?_
  have h:=h.put (d:=22) undef (by omega)
  generalize a.put (some 22) undef=a at h ⊢
  refine aS h (b':=true) rfl rfl rfl (by omega) (by simp) (by omega) fun a h=>cC h (.t rfl) .c (.t rfl) (by omega) fun a h=>wpList_nil ?_
  refine bf h (b:=true) rfl (fun _=>?_) (fun hh=>by cases hh)
  exact aw (aW (ah h .c (by omega) fun a h=>wpList_nil (.ret (fQ (RR:=fun e w'=>ac (fun _=>False) w w'/\e=.returned (.bool false)) h rfl ⟨GN,rfl⟩))))
 | none=>
  refine j9 h (b:=false) rfl rfl rfl (by omega) (.t rfl) hF (by omega) fun a h=>gu h (b:=false) rfl rfl rfl (by omega) (.t rfl) hF.var GZ (by omega) fun a h=>?_
  refine xz (b:=false) (bY rfl rfl (by rw[h.size];omega) (h.get 16 (.bool false) rfl)) hM (h.get 18 _ rfl) ?_
  have h:=h.put (d:=19) (.int .i64 0) (by omega)
  generalize a.put (some 19) (.int .i64 0)=a at h ⊢
  refine j9 h (b:=false) rfl rfl rfl (by omega) (.t rfl) hF (by omega) fun a h=>gu h (b:=false) rfl rfl rfl (by omega) (.t rfl) hF.var GX (by omega) fun a h=>?_
  refine xz (b:=false) (bY rfl rfl (by rw[h.size];omega) (h.get 16 (.bool false) rfl)) hM (h.get 21 _ rfl) ?_
  have h:=h.put (d:=22) (.int .i64 0) (by omega)
  generalize a.put (some 22) (.int .i64 0)=a at h ⊢
  refine kD h (b:=false) rfl rfl rfl (by omega) rfl (.t rfl) (.t rfl) (by omega) fun a h=>cC h (.t rfl) .c (.t rfl) (by omega) fun a h=>wpList_nil ?_
  have h:St 56 a [(2,pt w.heap.size 0),(24,.bool false)]:=h.pick ⟨rfl,rfl,trivial⟩
  refine bf h (b:=false) rfl (fun hh=>by cases hh) (fun _=>.skip ?_)
  refine aw (aw (aW (bk h (.t rfl) hF (by omega) fun a h=>aN h (.t rfl) hF.var GZ (by omega) fun a h=>?_)))
  refine aD (v:=pt w2.heap.size 0) (w':=w2.alloc (.mapIter none 0 #[] 0)) (by
   have e:=h.get 26 (.map none) rfl
   have e':a.eval (tm 26)=.map none:=e
   simp[execOp,mk,e',Instr.range,run_underlying hM,newObj,Sem.run,pt]) (wpList_nil ?_)
  have h:=h.put (d:=27) (pt w2.heap.size 0) (by omega)
  generalize a.put (some 27) (pt w2.heap.size 0)=a at h ⊢
  have JJ:=aB w2 (.mapIter none 0 #[] 0)
  have Gx:ac (fun _=>False) w2 (w2.alloc (.mapIter none 0 #[] 0)):=ac.alloc _ _ _
  generalize w2.alloc (.mapIter none 0 #[] 0)=w3 at JJ Gx ⊢
  have Ig:=GN.trans Gx
  refine .block (.loop (fun a' w'=>a'=a/\w'=w3) (fun _ _=>0) ⟨rfl,rfl⟩ ?_)
  rintro a' w' ⟨rfl,rfl⟩
  refine aw (aW ?_)
  refine At (v:=.tuple #[.bool false]) (by
   have e':a'.eval (tm 27)=pt w2.heap.size 0:=h.get 27 _ rfl
   simp only[pt]at e'
   simp[execOp,e',Instr.next,getObj,Sem.run,JJ]) ?_
  have h:=h.put (d:=28) (.tuple #[.bool false]) (by omega)
  generalize a'.put (some 28) (.tuple #[.bool false])=a at h ⊢
  refine k8 h (.t rfl) rfl (by omega) fun a h=>wpList_nil ?_
  refine aw (bf h (b:=false) rfl (fun hh=>by cases hh) (fun _=>.exit ?_))
  exact aw (aW (ah h .c (by omega) fun a h=>wpList_nil (.ret (fQ (RR:=fun e w'=>ac (fun _=>False) w w'/\e=.returned (.bool true)) h rfl ⟨Ig,rfl⟩))))
end
structure ZS where
 T:Nat
 kt:Nat
 tTags:Nat
 fTS:Nat
abbrev ZF:=Nat × Nat × Nat × Option cP × Int
def jt (z:ZS):List ZF->Nat->Nat->List Oper
 | [],q,i=>[gd (q+1) (.fieldAddr z.T (tm 2) z.kt) i true,gd (q+2) (.load z.tTags (tm (q+1))) i true,gd (q+3) (.fieldAddr z.T (tm 3) z.kt) i true,gd (q+4) (.load z.tTags (tm (q+3))) i true,
  gd (q+5) (.call ⟨.value (.func z.fTS),[tm (q+2),tm (q+4)].toArray,#[]⟩) i true,mk (some (q+6)) (.pick (tm q) (tm (q+5)) (.const (.bool false))),mk (some 4) (.assign (tm (q+6)))]
 | f::r,q,i=>gd (q+1) (.fieldAddr z.T (tm 2) f.1) i true::gd (q+2) (.load f.2.1 (tm (q+1))) i true::gd (q+3) (.fieldAddr z.T (tm 3) f.1) i true::gd (q+4) (.load f.2.1 (tm (q+3))) i true ::
  gd (q+5) (.binOp .eql f.2.1 (tm (q+2)) (tm (q+4)) 0) i true::mk (some (q+6)) (.pick (tm q) (tm (q+5)) (.const (.bool false)))::mk (some (q+7)) (.move (tm (q+6)))::jt z r (q+7) (i+7)
def D1 (z:ZS)(f:ZF):List Oper:=[mk (some 5) (.fieldAddr z.T (tm 2) f.1),mk (some 6) (.load f.2.1 (tm 5)),mk (some 7) (.fieldAddr z.T (tm 3) f.1),mk (some 8) (.load f.2.1 (tm 7)),mk (some 9) (.binOp .eql f.2.1 (tm 6) (tm 8) 0),mk (some 10) (.move (tm 9))]
def cZS (z:ZS)(f:ZF)(r:List ZF):Code:=
 .seq (rg [mk (some 2) (.box z.T (tm 0)),mk (some 3) (.box z.T (tm 1)),mk (some 4) (.assign (.const (.bool false)))]) (.seq (rg (D1 z f++jt z r 10 5)) .ret)
section
variable {P:Program}
theorem r6 {p:Option cP}{df:Int}{y:Value}(h:jk p y)(T:Nat)(x z:Operand)(w:World):(eqGuard .eql T x z y (pv p df)).run P w=.ok () w/\(binOp .eql T y (pv p df)).run P w=.ok (.bool (eW p df y)) w:=by
 cases p with
 | some q=>
  obtain⟨n,rfl⟩:=h
  refine⟨by simp[eqGuard],?_⟩
  have e:(n==df)=decide (n=df):=by rw[Bool.eq_iff_iff];simp
  show(binOp .eql T (.int q.kind n) (.int q.kind df)).run P w=.ok (.bool (n==df)) w
  rw[e]
  exact i5 (.inr (.inr (.inr (.inr (.inl ⟨rfl,rfl⟩)))))
 | none=>
  obtain⟨l,rfl⟩:=h
  refine⟨by simp[eqGuard],?_⟩
  have e:((⟨l.toArray⟩:ByteArray).toList==(⟨#[]⟩:ByteArray).toList)=(⟨l.toArray⟩:ByteArray).data.toList.isEmpty:=by
   rw[ByteArray.toList_eq,ByteArray.toList_eq]
   cases l<;>rfl
  simp only[pv,eW,binOp,Op.stringOp,e,Sem.run_pure]
theorem pD {ops:Array Oper}{Q:Exit->Act->World->Prop}{r:List Oper}{d j TT k F B O off sz:Nat}{agg b:Bool}{x:Operand}{a:Act}{w:World}(hy:yielded ops a.tmps j=some b)(hx:a.eval x=pt B O)(hF:bp P TT k F off agg sz)
  (c:wpList P ops Q r (a.put (some d) (pt B (O+off))) w):wpList P ops Q (gd d (.fieldAddr TT x k) j b::r) a w:=by
 obtain⟨fs,f,h1,h2,h3,h4⟩:=hF.fld
 obtain⟨q,rfl⟩:∃ q,sz=q+1:=⟨sz-1,by have:=hF.pos;omega⟩
 simp only[pt]at hx
 have hn:∀ w,(sizeOf f.type).run P w=.ok (q+1) w:=fun w=>by rw[h4];exact hF.var.size w
 refine fp hy ?_ c
 simp[execOp,mk,hx,Instr.fieldAt,run_underlying h1,h2,h3,fieldPlace,hn,Instr.sureAddr,Addr.add_lit,pt]
theorem qY {ops:Array Oper}{Q:Exit->Act->World->Prop}{r:List Oper}{d j F B O sz:Nat}{b:Bool}{x:Operand}{v:Value}{a:Act}{w:World}(hy:yielded ops a.tmps j=some b)(hx:a.eval x=pt B O)(hF:bd P F false sz)(hv:w.cell? ⟨B,O,none⟩=some v)
  (c:wpList P ops Q r (a.put (some d) v) w):wpList P ops Q (gd d (.load F x) j b::r) a w:=by
 simp only[pt]at hx
 refine fp hy ?_ c
 simp[execOp,mk,hx,Instr.loadAt,Instr.sureAddr,loadVar,hF.agg w,load,hv,Sem.run]
theorem qX {ops:Array Oper}{Q:Exit->Act->World->Prop}{r:List Oper}{d j F B O:Nat}{b:Bool}{x:Operand}{cs:List Value}{a:Act}{w:World}(hy:yielded ops a.tmps j=some b)(hx:a.eval x=pt B O)(hF:bd P F true cs.length)(hv:ao w B O cs)
  (c:wpList P ops Q r (a.put (some d) (.agg cs.toArray)) w):wpList P ops Q (gd d (.load F x) j b::r) a w:=by
 simp only[pt]at hx
 have hl:=run_loadCells_list (P:=P) w ⟨B,O,none⟩ cs (fun j v hj=>by rw[Addr.add_lit];exact hv j v hj)
 refine fp hy ?_ c
 simp[execOp,mk,hx,Instr.loadAt,Instr.sureAddr,loadVar,hF.agg w,hF.size w,hl]
theorem x2 {ops:Array Oper}{Q:Exit->Act->World->Prop}{r:List Oper}{d j f:Nat}{b:Bool}{args:List Operand}{vs:List Value}{R:Ending->World->Prop}{a:Act}{w:World}(hy:yielded ops a.tmps j=some b)(hf:Ent P f)(GY:args.map a.eval=vs)(hc:Calls P f vs.toArray w R)
  (c:∀ e w',R e w'->∃ v,e=.returned v/\wpList P ops Q r (a.put (some d) v) w'):wpList P ops Q (gd d (.call ⟨.value (.func f),args.toArray,#[]⟩) j b::r) a w:=by
 refine pC hy ?_
 unfold Oper.wp
 have : (execOp a.eval (⟨some d, .call ⟨.value (.func f), args.toArray, #[]⟩, 0, "", #[], some (j, b)⟩ : Oper)).run P w = .ok (.enter f vs.toArray) w := by
  have he:a.eval (.func f)=.func (.func f) #[] #[]:=rfl
  have Pf:(args.map a.eval).toArray=vs.toArray:=by rw[GY]
  simp only[execOp,resolve,he,Deferred.ofValue,invoke,Sem.run_bind,Sem.run_pure,Result.andThen_ok,Array.empty_append,Array.append_empty,List.map_toArray,Pf]
  exact hf _ _
 rw[this]
 exact hc.mono fun e w' hR=>by
  obtain⟨v,rfl,hk⟩:=c e w' hR
  exact hk
structure ZI (N q bx bz:Nat)(b:Bool)(a:Act):Prop where
 gq:a.get q=.bool b
 g2:a.get 2=pt bx 0
 g3:a.get 3=pt bz 0
 size:a.tmps.size=N
 defers:a.defers=[]
theorem ZI.put {N q bx bz d:Nat}{b:Bool}{a:Act}(h:ZI N q bx bz b a)(hq:3<q)(hd:q<d)(v:Value):ZI N q bx bz b (a.put (some d) v):=
 ⟨by rw[ak (by omega)];exact h.gq,by rw[ak (by omega)];exact h.g2,by rw[ak (by omega)];exact h.g3,by rw[ab];exact h.size,by rw[ai];exact h.defers⟩
theorem ZI.yd {N q bx bz i:Nat}{b:Bool}{a:Act}{ops:Array Oper}(h:ZI N q bx bz b a)(hi:∃ o,ops[i]?=some o/\o.dst=some q)(hq:q<N):yielded ops a.tmps i=some b:=by
 obtain⟨o,h1,h2⟩:=hi
 exact bY h1 h2 (by rw[h.size];exact hq) h.gq
theorem s3 {z:ZS}{N bx bz:Nat}{x zc:List Value}{m:Option Nat}{toff:Nat}{ops:Array Oper}{Q:Exit->Act->World->Prop}{w:World}(hE:Ent P z.fTS)(hT:TsC P z.fTS)(NQ:bd P z.tTags true 1)(Jr:bp P z.T z.kt z.tTags toff true 1)(hx:ao w bx 0 x)(hz:ao w bz 0 zc)(MU:x[toff]?=some (.map m))(Lg:zc[toff]?=some (.map none)) :
  ∀ (l:List ZF) (q i:Nat) (b:Bool) (a:Act),3<q->(∀ j o,(jt z l q i)[j]?=some o->ops[i+1+j]?=some o)->(∃ o,ops[i]?=some o/\o.dst=some q)->ZI N q bx bz b a->q+7*l.length+7<=N ->
  (∀ f∈l,bp P z.T f.1 f.2.1 f.2.2.1 false 1/\zc[f.2.2.1]?=some (pv f.2.2.2.1 f.2.2.2.2)/\∃ y,x[f.2.2.1]?=some y/\jk f.2.2.2.1 y) ->
  (∀ a' w',ac (fun _=>False) w w'->a'.get 4=.bool (b&&((l.all fun f=>eW f.2.2.2.1 f.2.2.2.2 ((x[f.2.2.1]?).getD undef))&&m.isNone))->a'.defers=[]->Q .normal a' w')->wpList P ops Q (jt z l q i) a w
 | [],q,i,b,a,hq,_,hi,hI,hN,_,h=>by
  simp only[List.length_nil,Nat.mul_zero,Nat.add_zero]at hN
  unfold jt
  cases b with
  | false=>
   have Jj:=hI.put hq (d:=q+1) (by omega) undef
   refine d8 (hI.yd hi (by omega)) (by simp) ?_
   have K9:=Jj.put hq (d:=q+2) (by omega) undef
   refine d8 (Jj.yd hi (by omega)) (by simp) ?_
   have Ki:=K9.put hq (d:=q+3) (by omega) undef
   refine d8 (K9.yd hi (by omega)) (by simp) ?_
   have HX:=Ki.put hq (d:=q+4) (by omega) undef
   refine d8 (Ki.yd hi (by omega)) (by simp) ?_
   have HE:=HX.put hq (d:=q+5) (by omega) undef
   refine d8 (HX.yd hi (by omega)) (by simp) ?_
   refine fm (b:=false) HE.gq (aj (wpList_nil (h _ w (ac.refl _ _) ?_ ?_)))
   ·have hs:=HE.size
    rw[am (by simp only[ab]at hs ⊢;omega),aa,am (by simp only[ab]at hs ⊢;omega)]
    simp
    rfl
   ·simp only[ai];exact hI.defers
  | true=>
   refine pD (hI.yd hi (by omega)) (by rw[aa];exact hI.g2) Jr ?_
   have Jj:=hI.put hq (d:=q+1) (by omega) (pt bx (0+toff))
   have e1:(a.put (some (q+1)) (pt bx (0+toff))).get (q+1)=pt bx (0+toff):=am (by have:=hI.size;omega)
   generalize a.put (some (q+1)) (pt bx (0+toff))=a1 at Jj e1 ⊢
   refine qX (cs:=[.map m]) (Jj.yd hi (by omega)) (by rw[aa];exact e1) NQ (fun j c hj=>?_) ?_
   ·cases j with
    | zero=>simp only[List.getElem?_cons_zero,Option.some.injEq]at hj;subst hj;exact hx toff _ MU
    | succ j=>simp at hj
   have K9:=Jj.put hq (d:=q+2) (by omega) (.agg [.map m].toArray)
   have e2:(a1.put (some (q+2)) (.agg [.map m].toArray)).get (q+2)=.agg [.map m].toArray:=am (by have:=Jj.size;omega)
   generalize a1.put (some (q+2)) (.agg [.map m].toArray)=a2 at K9 e2 ⊢
   refine pD (K9.yd hi (by omega)) (by rw[aa];exact K9.g3) Jr ?_
   have Ki:=K9.put hq (d:=q+3) (by omega) (pt bz (0+toff))
   have e3:(a2.put (some (q+3)) (pt bz (0+toff))).get (q+3)=pt bz (0+toff):=am (by have:=K9.size;omega)
   have e23:(a2.put (some (q+3)) (pt bz (0+toff))).get (q+2)=.agg [.map m].toArray:=by rw[ak (by omega)];exact e2
   generalize a2.put (some (q+3)) (pt bz (0+toff))=a3 at Ki e3 e23 ⊢
   refine qX (cs:=[.map none]) (Ki.yd hi (by omega)) (by rw[aa];exact e3) NQ (fun j c hj=>?_) ?_
   ·cases j with
    | zero=>simp only[List.getElem?_cons_zero,Option.some.injEq]at hj;subst hj;exact hz toff _ Lg
    | succ j=>simp at hj
   have HX:=Ki.put hq (d:=q+4) (by omega) (.agg [.map none].toArray)
   have e4:(a3.put (some (q+4)) (.agg [.map none].toArray)).get (q+4)=.agg [.map none].toArray:=am (by have:=Ki.size;omega)
   have e24:(a3.put (some (q+4)) (.agg [.map none].toArray)).get (q+2)=.agg [.map m].toArray:=by rw[ak (by omega)];exact e23
   generalize a3.put (some (q+4)) (.agg [.map none].toArray)=a4 at HX e4 e24 ⊢
   refine x2 (vs:=[.agg #[.map m],.agg #[.map none]]) (HX.yd hi (by omega)) hE (by simp only[List.map_cons,List.map_nil,aa,e4,e24]) (hT w m) fun e w' hR=>?_
   obtain⟨hk,rfl⟩:=hR
   refine⟨_,rfl,?_⟩
   have HE:=HX.put hq (d:=q+5) (by omega) (.bool m.isNone)
   have e5:(a4.put (some (q+5)) (.bool m.isNone)).get (q+5)=.bool m.isNone:=am (by have:=HX.size;omega)
   generalize a4.put (some (q+5)) (.bool m.isNone)=a5 at HE e5 ⊢
   refine fm (b:=true) HE.gq (aj (wpList_nil (h _ w' hk ?_ ?_)))
   ·have hs:=HE.size
    rw[am (by simp only[ab];omega),aa,am (by omega)]
    simp only[if_true,aa,e5,List.all_nil,Bool.true_and]
   ·simp only[ai];exact HE.defers
 | f::r,q,i,b,a,hq,JU,hi,hI,hN,hf,h=>by
  simp only[List.length_cons]at hN
  obtain⟨hF,Sw,y,MT,On⟩:=hf f (List.mem_cons_self ..)
  have JD:∃ o,ops[i+7]?=some o/\o.dst=some (q+7):=by
   have:=JU 6 (mk (some (q+7)) (.move (tm (q+6)))) (by simp[jt])
   exact⟨_,by rw[show i+7=i+1+6 by omega];exact this,rfl⟩
  have NF:∀ j o,(jt z r (q+7) (i+7))[j]?=some o->ops[i+7+1+j]?=some o:=fun j o hj=>by
   have:=JU (j+7) o (by simpa[jt]using hj)
   rw[show i+7+1+j=i+1+(j+7) by omega]
   exact this
  have Jx:((f::r).all fun f=>eW f.2.2.2.1 f.2.2.2.2 ((x[f.2.2.1]?).getD undef))=(eW f.2.2.2.1 f.2.2.2.2 y&&r.all fun f=>eW f.2.2.2.1 f.2.2.2.2 ((x[f.2.2.1]?).getD undef)):=by
   rw[List.all_cons,MT];rfl
  rw[Jx]at h
  unfold jt
  cases b with
  | false=>
   have Jj:=hI.put hq (d:=q+1) (by omega) undef
   refine d8 (hI.yd hi (by omega)) (by simp) ?_
   have K9:=Jj.put hq (d:=q+2) (by omega) undef
   refine d8 (Jj.yd hi (by omega)) (by simp) ?_
   have Ki:=K9.put hq (d:=q+3) (by omega) undef
   refine d8 (K9.yd hi (by omega)) (by simp) ?_
   have HX:=Ki.put hq (d:=q+4) (by omega) undef
   refine d8 (Ki.yd hi (by omega)) (by simp) ?_
   have HE:=HX.put hq (d:=q+5) (by omega) undef
   refine d8 (HX.yd hi (by omega)) (by simp) ?_
   generalize((((a.put (some (q+1)) undef).put (some (q+2)) undef).put (some (q+3)) undef).put (some (q+4)) undef).put (some (q+5)) undef=a5 at HE ⊢
   refine fm (b:=false) HE.gq ?_
   have ID:=HE.put hq (d:=q+6) (by omega) (.bool false)
   have e6:(a5.put (some (q+6)) (.bool false)).get (q+6)=.bool false:=am (by have:=HE.size;omega)
   show wpList P ops Q _ (a5.put (some (q+6)) (.bool false)) w
   generalize a5.put (some (q+6)) (.bool false)=a6 at ID e6 ⊢
   refine ag ?_
   rw[aa,e6]
   have hs:=ID.size
   exact s3 hE hT NQ Jr hx hz MU Lg r (q+7) (i+7) false _ (by omega) NF JD ⟨am (by omega),by rw[ak (by omega)];exact ID.g2,by rw[ak (by omega)];exact ID.g3,by simpa only[ab]using hs,by simpa only[ai]using ID.defers⟩ (by omega) (fun g hg=>hf g (List.mem_cons_of_mem _ hg)) fun a' w' hk h4 hd=>h a' w' hk (by rw[h4];simp) hd
  | true=>
   refine pD (hI.yd hi (by omega)) (by rw[aa];exact hI.g2) hF ?_
   have Jj:=hI.put hq (d:=q+1) (by omega) (pt bx (0+f.2.2.1))
   have e1:(a.put (some (q+1)) (pt bx (0+f.2.2.1))).get (q+1)=pt bx (0+f.2.2.1):=am (by have:=hI.size;omega)
   generalize a.put (some (q+1)) (pt bx (0+f.2.2.1))=a1 at Jj e1 ⊢
   refine qY (Jj.yd hi (by omega)) (by rw[aa];exact e1) hF.var (hx _ _ MT) ?_
   have K9:=Jj.put hq (d:=q+2) (by omega) y
   have e2:(a1.put (some (q+2)) y).get (q+2)=y:=am (by have:=Jj.size;omega)
   generalize a1.put (some (q+2)) y=a2 at K9 e2 ⊢
   refine pD (K9.yd hi (by omega)) (by rw[aa];exact K9.g3) hF ?_
   have Ki:=K9.put hq (d:=q+3) (by omega) (pt bz (0+f.2.2.1))
   have e3:(a2.put (some (q+3)) (pt bz (0+f.2.2.1))).get (q+3)=pt bz (0+f.2.2.1):=am (by have:=K9.size;omega)
   have e23:(a2.put (some (q+3)) (pt bz (0+f.2.2.1))).get (q+2)=y:=by rw[ak (by omega)];exact e2
   generalize a2.put (some (q+3)) (pt bz (0+f.2.2.1))=a3 at Ki e3 e23 ⊢
   refine qY (Ki.yd hi (by omega)) (by rw[aa];exact e3) hF.var (hz _ _ Sw) ?_
   have HX:=Ki.put hq (d:=q+4) (by omega) (pv f.2.2.2.1 f.2.2.2.2)
   have e4:(a3.put (some (q+4)) (pv f.2.2.2.1 f.2.2.2.2)).get (q+4)=pv f.2.2.2.1 f.2.2.2.2:=am (by have:=Ki.size;omega)
   have e24:(a3.put (some (q+4)) (pv f.2.2.2.1 f.2.2.2.2)).get (q+2)=y:=by rw[ak (by omega)];exact e23
   generalize a3.put (some (q+4)) (pv f.2.2.2.1 f.2.2.2.2)=a4 at HX e4 e24 ⊢
   obtain⟨r1,r2⟩:=r6 (P:=P) (df:=f.2.2.2.2) On f.2.1 (tm (q+2)) (tm (q+4)) w
   refine fp (v:=.bool (eW f.2.2.2.1 f.2.2.2.2 y)) (HX.yd hi (by omega)) (by
    have e2':a4.eval (tm (q+2))=y:=e24
    have e4':a4.eval (tm (q+4))=pv f.2.2.2.1 f.2.2.2.2:=e4
    simp only[execOp,mk,e2',e4',Sem.run_bind,r1,r2,Result.andThen_ok,Sem.run_pure]) ?_
   have HE:=HX.put hq (d:=q+5) (by omega) (.bool (eW f.2.2.2.1 f.2.2.2.2 y))
   have e5:(a4.put (some (q+5)) (.bool (eW f.2.2.2.1 f.2.2.2.2 y))).get (q+5)=.bool (eW f.2.2.2.1 f.2.2.2.2 y):=am (by have:=HX.size;omega)
   generalize a4.put (some (q+5)) (.bool (eW f.2.2.2.1 f.2.2.2.2 y))=a5 at HE e5 ⊢
   refine fm (b:=true) HE.gq ?_
   simp only[if_true]
   rw[aa,e5]
   have ID:=HE.put hq (d:=q+6) (by omega) (.bool (eW f.2.2.2.1 f.2.2.2.2 y))
   have e6:(a5.put (some (q+6)) (.bool (eW f.2.2.2.1 f.2.2.2.2 y))).get (q+6)=.bool (eW f.2.2.2.1 f.2.2.2.2 y):=am (by have:=HE.size;omega)
   generalize a5.put (some (q+6)) (.bool (eW f.2.2.2.1 f.2.2.2.2 y))=a6 at ID e6 ⊢
   refine ag ?_
   rw[aa,e6]
   have hs:=ID.size
   exact s3 hE hT NQ Jr hx hz MU Lg r (q+7) (i+7) (eW f.2.2.2.1 f.2.2.2.2 y) _ (by omega) NF JD ⟨am (by omega),by rw[ak (by omega)];exact ID.g2,by rw[ak (by omega)];exact ID.g3,by simpa only[ab]using hs,by simpa only[ai]using ID.defers⟩ (by omega) (fun g hg=>hf g (List.mem_cons_of_mem _ hg)) fun a' w' hk h4 hd=>h a' w' hk (by rw[h4,Bool.true_and,Bool.and_assoc]) hd
theorem xd (hm:P.follows .mixedOrders=true){fS N:Nat}{z:ZS}{f:ZF}{r:List ZF}{toff sz:Nat}(hfn:FnIs P fS N [4] (cZS z f r))(hN:7*r.length+17<=N)(hE:Ent P z.fTS)(hT:TsC P z.fTS)(NQ:bd P z.tTags true 1)(Jr:bp P z.T z.kt z.tTags toff true 1)(hF:∀ g∈f::r,bp P z.T g.1 g.2.1 g.2.2.1 false 1)
  (w:World) (x zc:List Value) (m:Option Nat) (_hx:x.length=sz) (_hz:zc.length=sz) (MU:x[toff]?=some (.map m)) (Lg:zc[toff]?=some (.map none)) (RI:∀ g∈f::r,zc[g.2.2.1]?=some (pv g.2.2.2.1 g.2.2.2.2)) (RK:∀ g∈f::r,∃ y,x[g.2.2.1]?=some y/\jk g.2.2.2.1 y) :
  Calls P fS ([.agg x.toArray,.agg zc.toArray]:List Value).toArray w fun e w'=>ac (fun _=>False) w w'/\e=.returned (.bool (((f::r).all fun g=>eW g.2.2.2.1 g.2.2.2.2 ((x[g.2.2.1]?).getD undef))&&m.isNone)):=by
 refine dm hm hfn (by simp) _ (by simp;omega) fun a h=>?_
 unfold cZS
 refine aw (aW (dG (cs:=x) h (.t rfl) (by omega) fun a h=>?_))
 have Hc:=aB w (.cells x.toArray z.T (0,0))
 have Gy:ac (fun _=>False) w (w.alloc (.cells x.toArray z.T (0,0))):=ac.alloc _ _ _
 have MS:(w.alloc (.cells x.toArray z.T (0,0))).heap.size=w.heap.size+1:=by simp
 generalize w.alloc (.cells x.toArray z.T (0,0))=w1 at Hc Gy MS ⊢
 refine dG (cs:=zc) h (.t rfl) (by omega) fun a h=>?_
 have Hj:=aB w1 (.cells zc.toArray z.T (0,0))
 have Gs:ac (fun _=>False) w1 (w1.alloc (.cells zc.toArray z.T (0,0))):=ac.alloc _ _ _
 generalize w1.alloc (.cells zc.toArray z.T (0,0))=w2 at Hj Gs ⊢
 have GZ:ao w2 w.heap.size 0 x:=i7 (F:=z.T) (by rw[Gs.block _ (by omega) id];exact Hc)
 have GX:ao w2 w1.heap.size 0 zc:=i7 (F:=z.T) Hj
 have GN:=Gy.trans Gs
 refine ah h .c (by omega) fun a h=>wpList_nil ?_
 have h:St N a [(2,pt w.heap.size 0),(3,pt w1.heap.size 0)]:=h.pick ⟨rfl,rfl,trivial⟩
 obtain⟨y,MT,On⟩:=RK f (List.mem_cons_self ..)
 have Sw:=RI f (List.mem_cons_self ..)
 have Sr:=hF f (List.mem_cons_self ..)
 refine aw (aW ?_)
 show wpList P (D1 z f++jt z r 10 5).toArray _ (mk (some 5) (.fieldAddr z.T (tm 2) f.1)::mk (some 6) (.load f.2.1 (tm 5))::mk (some 7) (.fieldAddr z.T (tm 3) f.1)::mk (some 8) (.load f.2.1 (tm 7))::mk (some 9) (.binOp .eql f.2.1 (tm 6) (tm 8) 0)::mk (some 10) (.move (tm 9))::jt z r 10 5) a w2
 refine bk h (.t rfl) Sr (by omega) fun a h=>aN h (.t rfl) Sr.var (GZ _ _ MT) (by omega) fun a h=>bk h (.t rfl) Sr (by omega) fun a h=>aN h (.t rfl) Sr.var (GX _ _ Sw) (by omega) fun a h=>?_
 obtain⟨r1,r2⟩:=r6 (P:=P) (df:=f.2.2.2.2) On f.2.1 (tm 6) (tm 8) w2
 refine aD (v:=.bool (eW f.2.2.2.1 f.2.2.2.2 y)) (w':=w2) (by
  have e2':a.eval (tm 6)=y:=h.get 6 _ rfl
  have e4':a.eval (tm 8)=pv f.2.2.2.1 f.2.2.2.2:=h.get 8 _ rfl
  simp only[execOp,mk,e2',e4',Sem.run_bind,r1,r2,Result.andThen_ok,Sem.run_pure]) ?_
 have h:=h.put (d:=9) (.bool (eW f.2.2.2.1 f.2.2.2.2 y)) (by omega)
 generalize a.put (some 9) (.bool (eW f.2.2.2.1 f.2.2.2.2 y))=a at h ⊢
 refine al h (.t rfl) (by omega) fun a h=>?_
 have h:St N a [(10,.bool (eW f.2.2.2.1 f.2.2.2.2 y)),(2,pt w.heap.size 0),(3,pt w1.heap.size 0)]:=h.pick ⟨rfl,rfl,rfl,trivial⟩
 refine s3 (N:=N) hE hT NQ Jr GZ GX MU Lg r 10 5 _ a (by omega) (fun j o hj=>?_) ⟨mk (some 10) (.move (tm 9)),rfl,rfl⟩ ⟨h.get 10 _ rfl,h.get 2 _ rfl,h.get 3 _ rfl,h.size,h.defers⟩ (by omega) (fun g hg=>⟨hF g (List.mem_cons_of_mem _ hg),RI g (List.mem_cons_of_mem _ hg),RK g (List.mem_cons_of_mem _ hg)⟩) fun a' w' hk h4 hd=>.ret ⟨hd,?_⟩
 ·show(D1 z f++jt z r 10 5).toArray[5+1+j]?=some o
  rw[List.getElem?_toArray,List.getElem?_append_right (by simp[D1])]
  simpa[D1]using hj
 ·rw[dn,h4,List.all_cons,MT]
  exact⟨GN.trans hk,by rw[Bool.and_assoc];rfl⟩
def DC (zz:Array Value)(s:Sm):Bool:=zz.size==s.sz&&gj zz s.toff (.map none)&&s.ds.all fun q=>gj zz q.1 (pv q.2.1 q.2.2)
def FY (P:Program)(F:Nat)(l:List ZF):Bool:=l.all fun g=>eB P F g.1 g.2.1 g.2.2.1 false 1
theorem smC_of (hm:P.follows .mixedOrders=true){s:Sm}{N:Nat}{z:ZS}{f:ZF}{r:List ZF}{zz:Array Value}(hfn:FnIs P s.fSame N [4] (cZS z f r))(hN:7*r.length+17<=N)(Vo:z.T=s.F)(hE:Ent P z.fTS)(hT:TsC P z.fTS)(NQ:jg P z.tTags true 1=true)(Jr:eB P s.F z.kt z.tTags s.toff true 1=true)(hF:FY P s.F (f::r)=true)(L3:s.ds=(f::r).map (·.2.2))
  (hV:jg P s.F true s.sz=true) (PC:∃ zv:Value,zv.cells.size=s.sz/\∀ w,(zeroValue s.F).run P w=.ok zv w) (hNE:Ent P s.fDef) (hNw:NwC P s.fDef zz) (MQ:DC zz s=true):SmC P s:=by
 simp only[DC,Bool.and_eq_true,beq_iff_eq,List.all_eq_true]at MQ
 obtain⟨⟨h1,h2⟩,h3⟩:=MQ
 simp only[FY,List.all_eq_true]at hF
 refine⟨varB_ok hV,PC,hNE,fun w=>(hNw w).mono fun e w' hR=>?_,hfn.ent,fun w x zc m hx hz MU Lg RI RK=>?_⟩
 ·obtain⟨rfl,hk⟩:=hR
  refine⟨hk,zz.toList,by simp,by simpa using h1,by simpa using qE h2,fun q hq=>by simpa using qE (h3 q hq)⟩
 ·have e:(s.ds.all fun q=>eW q.2.1 q.2.2 ((x[q.1]?).getD undef))=((f::r).all fun g=>eW g.2.2.2.1 g.2.2.2.2 ((x[g.2.2.1]?).getD undef)):=by
   rw[L3,List.all_map];rfl
  rw[e]
  have IX:∀ g∈f::r,g.2.2∈s.ds:=fun g hg=>by rw[L3];exact List.mem_map_of_mem hg
  exact xd hm (toff:=s.toff) (sz:=s.sz) hfn hN hE hT (varB_ok NQ) (by rw[Vo];exact fldB_ok Jr) (fun g hg=>by rw[Vo];exact fldB_ok (hF g hg)) w x zc m hx hz MU Lg (fun g hg=>RI _ (IX g hg)) fun g hg=>RK _ (IX g hg)
end
end
end Go.Proofs.YtbgklecbmhaadaaGreatDoor.Kx