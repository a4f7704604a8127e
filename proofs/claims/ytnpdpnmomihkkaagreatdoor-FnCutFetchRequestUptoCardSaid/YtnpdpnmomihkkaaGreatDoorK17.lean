/- messages, part 17 -/
import Derived.Test.YtnpdpnmomihkkaaGreatDoorK13

namespace Go.Proofs.YtnpdpnmomihkkaaGreatDoor.Kx
open Go
section
open Go
set_option maxRecDepth 100000
structure KE where
 fK:Nat
 fB:Nat
 fA:Nat
 fN:Nat
 fRd:Nat
 fAp:Nat
 fDf:Nat
 tM:Nat
 tE:Nat
 most:Int
def HV (_S:SN)(N:KE):List Oper:=[mk (some 0) (.alloc N.tM)]
def HU (_S:SN)(N:KE):List Oper:=[mk (some 1) (.alloc N.tM)]
def HT (_S:SN)(N:KE):List Oper:=[cl (some 2) N.fDf [(tm 1)]]
def HS (_S:SN)(N:KE):List Oper:=[mk (some 3) (.load N.tM (tm 1)),mk none (.store N.tM (tm 0) (tm 3))]
def cNwv (S:SN)(N:KE):Code:=
 (.seq (rg (HV S N))
 (.seq (rg (HU S N))
 (.seq (rg (HT S N))
 (.seq (rg (HS S N))
 .ret))))
end
section
open Go
set_option maxRecDepth 4000
section
variable {P:Program} {S:SN} {N:KE}
def NwC (P:Program)(fN:Nat)(z:Array Value):Prop:=∀ w,Calls P fN ([]:List Value).toArray w λe w'=>e=.returned (.agg z)/\br (λ_=>False) w w'
theorem nwv_calls (hm:P.follows .mixedOrders=true){z:Array Value}{zv:Value}{wr:List (Nat × Value)}{n:Nat}(hfn:FnIsC P N.fN 4 0 N.tM (cNwv S N))(zM:∀ w,(zeroValue N.tM).run P w=.ok zv w)(hE:Ent P N.fDf)(hD:DfC P N.fDf wr)(JO:∀ p∈wr,p.1<zv.cells.size)(hz:z=applyWr zv.cells 0 wr)
  (vM:cv P N.tM true n) (hn:z.size=n) (Jv:∀ u∈z.toList,u.oneCell'=true) (L4:zv.cells.size=n):NwC P N.fN z:=by
 intro w
 refine pc hm hfn [] ab λa h=>?_
 unfold cNwv
 refine bI (cq (gP h (zM w) aa λa h=>wpList_nil ?_))
 have Mt:=bO w (.cells zv.cells N.tM (0,0))
 have JM:br (λ_=>False) w (w.alloc (.cells zv.cells N.tM (0,0))):=br.alloc _ _ _
 have SH:(w.alloc (.cells zv.cells N.tM (0,0))).heap.size=w.heap.size+1:=by simp
 generalize w.alloc (.cells zv.cells N.tM (0,0))=w1 at Mt JM SH ⊢
 refine bI (cq (gP h (zM w1) aa λa h=>wpList_nil ?_))
 have Kj:=bO w1 (.cells zv.cells N.tM (0,0))
 have Jd:br (λ_=>False) w1 (w1.alloc (.cells zv.cells N.tM (0,0))):=br.alloc _ _ _
 have PP:(w1.alloc (.cells zv.cells N.tM (0,0))).heap.size=w1.heap.size+1:=by simp
 generalize w1.alloc (.cells zv.cells N.tM (0,0))=w2 at Kj Jd PP ⊢
 refine bI (cq (cX h hE (vs:=[pt w1.heap.size 0]) (λn a h=>by
  simp only[List.map_cons,List.map_nil]
  rw[Hd.t (l:=_) (i:=1) rfl n a h]) (hD _ w1.heap.size 0 zv.cells N.tM Kj (λp hp=>by simpa using JO p hp)) aa λe w3 hR=>⟨_,hR.1,λa h=>wpList_nil ?_⟩))
 obtain⟨_,IZ,Mp⟩:=hR
 have Sk:w3.heap[w1.heap.size]?=some (.cells z N.tM (0,0)):=by rw[Mp,hz]
 have Sl:w3.heap[w.heap.size]?=some (.cells zv.cells N.tM (0,0)):=by rw[IZ.block _ aa aa,Jd.block _ aa id];exact Mt
 have MV:bB w3 w1.heap.size 0 z.toList:=λj c hj=>by
  simp only[World.cell?,Sk,Option.isSome_none,ag,ak,aN]
  simpa using hj
 have PO:z.toList.length=n:=by simpa using hn
 have Mr:Value.agg z.toList.toArray=.agg z:=by simp
 refine bI (cq (dK h (cs:=z.toList) (.t rfl) (by rw[PO];exact vM) MV aa λa h=>?_))
 refine ix h (cs:=z.toList) (v:=.agg z.toList.toArray) (.t rfl) (.t rfl) (by simp[Value.cells]) (by rw[PO];exact vM.size) Sl (by rw[PO];exact L4) Jv (wpList_nil ?_)
 have Nx:=setRow_heap _ _ _ z.toList.toArray _ _ Sl
 refine .ret ⟨h.defers,⟨w.heap.size,0,none⟩,.agg z.toList.toArray,h.get 0 _ rfl,?_,by rw[Mr],?_⟩
 ·have MM:=run_loadCells_list (P:=P) (w3.setRow w.heap.size z.toList.toArray) ⟨w.heap.size,0,none⟩ z.toList (λj c hj=>by
   rw[Addr.add_lit]
   simp only[World.cell?,Nx,Option.isSome_none,ag,ak,aN]
   simpa using hj)
  rw[PO]at MM
  simp[loadVar,vM.agg,vM.size,MM]
 ·have hk:br (λk=>w.heap.size<=k) w (w3.setRow w.heap.size z.toList.toArray):=((((JM.trans Jd).mono λ_ _ h=>h.elim).trans (IZ.mono λk _ hk=>by omega))).trans (br.setRow _ _ _ _ (ae _))
  exact hk.mono λk hk hX=>by omega
end
end
section
open Go
set_option maxRecDepth 4000
structure ZT where
 tTags:Nat
 tM:Nat
 tB:Nat
 tInt:Nat
 tN:Nat
def cTS (z:ZT)(body:Code):Code:=
 .seq (rg [mk (some 2) (.box z.tTags (tm 0)),mk (some 3) (.box z.tTags (tm 1)),mk (some 4) (.assign (.const (.bool false)))])
 (.seq (.seq (rg [mk (some 9) (.fieldAddr z.tTags (tm 2) 0),mk (some 10) (.load z.tM (tm 9)),mk (some 11) (.binOp .eql z.tM (tm 10) (.const (.map none)) 0),mk (some 12) (.fieldAddr z.tTags (tm 3) 0),mk (some 13) (.load z.tM (tm 12)),mk (some 14) (.binOp .eql z.tM (tm 13) (.const (.map none)) 0),mk (some 15) (.binOp .neq z.tB (tm 11) (tm 14) 0),mk (some 16) (.move (tm 15)),
   gd 17 (.fieldAddr z.tTags (tm 2) 0) 7 false, gd 18 (.load z.tM (tm 17)) 7 false, ⟨some 19, .call ⟨.builtin .len, #[tm 18], #[z.tM]⟩, z.tInt, "", #[], some (7, false)⟩, gd 20 (.fieldAddr z.tTags (tm 3) 0) 7 false, gd 21 (.load z.tM (tm 20)) 7 false, ⟨some 22, .call ⟨.builtin .len, #[tm 21], #[z.tM]⟩, z.tInt, "", #[], some (7, false)⟩, gd 23 (.binOp .neq z.tInt (tm 19) (tm 22) 0) 7 false, mk (some 24) (.pick (tm 16) (.const (.bool true)) (tm 23))])
  (.cond (tm 24) (.seq (rg [mk (some 4) (.assign (.const (.bool false)))]) .ret) .skip))
 (.seq (.seq (rg [mk (some 25) (.fieldAddr z.tTags (tm 2) 0),mk (some 26) (.load z.tM (tm 25)),mk (some 27) (.range z.tM (tm 26))])
  (.block 0 (.loop (.seq (rg [⟨some 28, .next (tm 27) false, z.tN, "", #[], none⟩, mk (some 29) (.extract (tm 28) 0)]) (.seq (.cond (tm 29) .skip (.exit 0)) (.block 1 body))))))
 (.seq (rg [mk (some 4) (.assign (.const (.bool true)))]) .ret)))
def tsBody (c:Option Code):Code:=match c with
 | some (.seq _ (.seq _ (.seq (.seq _ (.block _ (.loop (.seq _ (.seq _ (.block _ b)))))) _)))=>b
 | _=>.skip
section
variable {P:Program} {S:SN}
theorem xp {ops:Array Oper}{Q:Exit->Act->World->Prop}{r:List Oper}{o:Oper}{d j:Nat}{b c:Bool}{a:Act}{w:World}(hg:o.guard=some (j,b))(Lb:o.dst=some d)(hy:yielded ops a.tmps j=some c)(hc:c≠b)(h:wpList P ops Q r (a.put (some d) undef) w):wpList P ops Q (o::r) a w:=by
 unfold wpList
 rw[al (by simp[Region.wanted,hg,hy,hc]),Lb]
 exact h
theorem C9 {ops : Array Oper} {Q : Exit -> Act -> World -> Prop} {r : List Oper} {d ty : Nat} {x : Operand} {v : Value} {a : Act} {w : World} (hx : (execOp a.eval (⟨some d, .next x false, ty, "", #[], none⟩ : Oper)).run P w = .ok (.value v) w) (h : wpList P ops Q r (a.put (some d) v) w) : wpList P ops Q (⟨some d, .next x false, ty, "", #[], none⟩ :: r) a w := by
 unfold wpList
 rw[ax (by simp[Region.wanted])]
 refine .inl ?_
 unfold Oper.wp
 rw[hx]
 exact h
theorem Ac {ops:Array Oper}{Q:Exit->Act->World->Prop}{r:List Oper}{d j kt et tM ty:Nat}{b:Bool}{x:Operand}{a:Act}{w:World}(hy:yielded ops a.tmps j=some b)(hM:P.underlying tM=some (.map kt et))(hx:a.eval x=.map none)
  (h : wpList P ops Q r (a.put (some d) (.int .i64 0)) w) : wpList P ops Q (⟨some d, .call ⟨.builtin .len, #[x], #[tM]⟩, ty, "", #[], some (j, b)⟩ :: r) a w := by
 unfold wpList
 rw[ax (by simp[Region.wanted,hy])]
 refine .inl ?_
 unfold Oper.wp
 have : (execOp a.eval (⟨some d, .call ⟨.builtin .len, #[x], #[tM]⟩, ty, "", #[], some (j, b)⟩ : Oper)).run P w = .ok (.value (.int .i64 0)) w := by
  simp[execOp,resolve,invoke,hx,builtin,Builtin.len_,run_underlying hM,goInt]
 rw[this]
 exact h
theorem qO {ops:Array Oper}{Q:Exit->Act->World->Prop}{r:List Oper}{n d tM kt et:Nat}{a:Act}{w:World}{l:List (Nat × Value)}(h:St n a l){x:Operand}{m:Option Nat}(hM:P.underlying tM=some (.map kt et))(hx:Hd l x (.map m))(hd:d<n)
  (c:∀ a',St n a' ((d,.bool m.isNone)::l)->wpList P ops Q r a' w):wpList P ops Q (mk (some d) (.binOp .eql tM x (.const (.map none)) 0)::r) a w:=qC hM (hx n a h) (c _ (h.put _ hd))
theorem CS {ops:Array Oper}{Q:Exit->Act->World->Prop}{r:List Oper}{n d tB:Nat}{a:Act}{w:World}{l:List (Nat × Value)}(h:St n a l){x y:Operand}{p q:Bool}(hB:P.underlying tB=some .bool)(hx:Hd l x (.bool p))(hy:Hd l y (.bool q))(hd:d<n)
  (c:∀ a',St n a' ((d,.bool (p != q))::l)->wpList P ops Q r a' w):wpList P ops Q (mk (some d) (.binOp .neq tB x y 0)::r) a w:=by
 refine bP ?_ (c _ (h.put _ hd))
 have he:(eqGuard .neq tB x y (.bool p) (.bool q)).run P w=.ok () w:=by simp[eqGuard]
 have hb:(binOp .neq tB (.bool p) (.bool q)).run P w=.ok (.bool (p != q)) w:=by
  simp only[binOp,Op.equal,Op.maxDepth,Sem.run_bind,run_equalIn_bool w 9999 tB p q hB,Result.andThen_ok,Sem.run_pure]
  rfl
 simp only[execOp,mk,hx n a h,hy n a h,Sem.run_bind,he,hb,Result.andThen_ok,Sem.run_pure]
def TsC (P:Program)(f:Nat):Prop:=∀ (w:World) (m:Option Nat),Calls P f ([.agg #[.map m],.agg #[.map none]]:List Value).toArray w λe w'=>br (λ_=>False) w w'/\e=.returned (.bool m.isNone)
theorem ts_calls (hm:P.follows .mixedOrders=true){f:Nat}{z:ZT}{body:Code}{kt et:Nat}(hfn:FnIs P f 56 [4] (cTS z body))(hM:P.underlying z.tM=some (.map kt et))(hB:P.underlying z.tB=some .bool)(hF:cO P z.tTags 0 z.tM 0 false 1):TsC P f:=by
 intro w m
 refine fb hm hfn ab _ ab λa h=>?_
 unfold cTS
 refine bI (cq (fy (cs:=[.map m]) h (.t rfl) aa λa h=>?_))
 have J2:=bO w (.cells #[.map m] z.tTags (0,0))
 have Jd:br (λ_=>False) w (w.alloc (.cells #[.map m] z.tTags (0,0))):=br.alloc _ _ _
 have PP:(w.alloc (.cells #[.map m] z.tTags (0,0))).heap.size=w.heap.size+1:=by simp
 show wpList P _ _ _ _ (w.alloc (.cells #[.map m] z.tTags (0,0)))
 generalize w.alloc (.cells #[.map m] z.tTags (0,0))=w1 at J2 Jd PP ⊢
 refine fy (cs:=[.map none]) h (.t rfl) aa λa h=>?_
 have JH:=bO w1 (.cells #[.map none] z.tTags (0,0))
 have IV:br (λ_=>False) w1 (w1.alloc (.cells #[.map none] z.tTags (0,0))):=br.alloc _ _ _
 show wpList P _ _ _ _ (w1.alloc (.cells #[.map none] z.tTags (0,0)))
 generalize w1.alloc (.cells #[.map none] z.tTags (0,0))=w2 at JH IV ⊢
 have JC:w2.cell? ⟨w.heap.size,0+0,none⟩=some (.map m):=by
  have:w2.heap[w.heap.size]?=some (.cells #[.map m] z.tTags (0,0)):=by rw[IV.block _ aa id];exact J2
  simp[World.cell?,this]
 have JA:w2.cell? ⟨w1.heap.size,0+0,none⟩=some (.map none):=by simp[World.cell?,JH]
 have J0:=Jd.trans IV
 refine b5 h .c aa λa h=>wpList_nil ?_
 have h:St 56 a [(2,pt w.heap.size 0),(3,pt w1.heap.size 0)]:=h.pick ⟨rfl,rfl,trivial⟩
 refine bI (bI (cq (cH h (.t rfl) hF aa λa h=>ce h (.t rfl) hF.var JC aa λa h=>qO h hM (.t rfl) aa λa h=>cH h (.t rfl) hF aa λa h=>ce h (.t rfl) hF.var JA aa λa h=>qO h hM (.t rfl) aa λa h=>CS h hB (.t rfl) (.t rfl) aa λa h=>b9 h (.t rfl) aa λa h=>?_)))
 cases m with
 | some r=>
  have h:St 56 a [(15,.bool true),(16,.bool true)]:=h.pick ⟨rfl,rfl,trivial⟩
  refine cm h (b':=true) rfl rfl rfl aa ab aa λa h=>cm h (b':=true) rfl rfl rfl aa ab aa λa h=>?_
  refine xp rfl rfl (dz rfl rfl (by rw[h.size];omega) (h.get 16 (.bool true) rfl)) ab ?_
  have h:=h.put (d:=19) undef aa
  generalize a.put (some 19) undef=a at h ⊢
  refine cm h (b':=true) rfl rfl rfl aa ab aa λa h=>cm h (b':=true) rfl rfl rfl aa ab aa λa h=>?_
  refine xp rfl rfl (dz rfl rfl (by rw[h.size];omega) (h.get 16 (.bool true) rfl)) ab ?_
  have h:=h.put (d:=22) undef aa
  generalize a.put (some 22) undef=a at h ⊢
  refine cm h (b':=true) rfl rfl rfl aa ab aa λa h=>dZ h (.t rfl) .c (.t rfl) aa λa h=>wpList_nil ?_
  refine cA h (b:=true) rfl (λ_=>?_) (λhh=>by cases hh)
  exact bI (cq (b5 h .c aa λa h=>wpList_nil (.ret (iH (RR:=λe w'=>br (λ_=>False) w w'/\e=.returned (.bool false)) h rfl ⟨J0,rfl⟩))))
 | none=>
  refine ls h (b:=false) rfl rfl rfl aa (.t rfl) hF aa λa h=>iW h (b:=false) rfl rfl rfl aa (.t rfl) hF.var JC aa λa h=>?_
  refine Ac (b:=false) (dz rfl rfl (by rw[h.size];omega) (h.get 16 (.bool false) rfl)) hM (h.get 18 _ rfl) ?_
  have h:=h.put (d:=19) (.int .i64 0) aa
  generalize a.put (some 19) (.int .i64 0)=a at h ⊢
  refine ls h (b:=false) rfl rfl rfl aa (.t rfl) hF aa λa h=>iW h (b:=false) rfl rfl rfl aa (.t rfl) hF.var JA aa λa h=>?_
  refine Ac (b:=false) (dz rfl rfl (by rw[h.size];omega) (h.get 16 (.bool false) rfl)) hM (h.get 21 _ rfl) ?_
  have h:=h.put (d:=22) (.int .i64 0) aa
  generalize a.put (some 22) (.int .i64 0)=a at h ⊢
  refine my h (b:=false) rfl rfl rfl aa rfl (.t rfl) (.t rfl) aa λa h=>dZ h (.t rfl) .c (.t rfl) aa λa h=>wpList_nil ?_
  have h:St 56 a [(2,pt w.heap.size 0),(24,.bool false)]:=h.pick ⟨rfl,rfl,trivial⟩
  refine cA h (b:=false) rfl (λhh=>by cases hh) (λ_=>.skip ?_)
  refine bI (bI (cq (cH h (.t rfl) hF aa λa h=>ce h (.t rfl) hF.var JC aa λa h=>?_)))
  refine bP (v:=pt w2.heap.size 0) (w':=w2.alloc (.mapIter none 0 #[] 0)) (by
   have e:=h.get 26 (.map none) rfl
   have e':a.eval (tm 26)=.map none:=e
   simp[execOp,mk,e',Instr.range,run_underlying hM,newObj,Sem.run,pt]) (wpList_nil ?_)
  have h:=h.put (d:=27) (pt w2.heap.size 0) aa
  generalize a.put (some 27) (pt w2.heap.size 0)=a at h ⊢
  have Mp:=bO w2 (.mapIter none 0 #[] 0)
  have IZ:br (λ_=>False) w2 (w2.alloc (.mapIter none 0 #[] 0)):=br.alloc _ _ _
  generalize w2.alloc (.mapIter none 0 #[] 0)=w3 at Mp IZ ⊢
  have Kd:=J0.trans IZ
  refine .block (.loop (λa' w'=>a'=a/\w'=w3) (λ_ _=>0) ⟨rfl,rfl⟩ ?_)
  rintro a' w' ⟨rfl,rfl⟩
  refine bI (cq ?_)
  refine C9 (v:=.tuple #[.bool false]) (by
   have e':a'.eval (tm 27)=pt w2.heap.size 0:=h.get 27 _ rfl
   simp only[pt]at e'
   simp[execOp,e',Instr.next,getObj,Sem.run,Mp]) ?_
  have h:=h.put (d:=28) (.tuple #[.bool false]) aa
  generalize a'.put (some 28) (.tuple #[.bool false])=a at h ⊢
  refine mu h (.t rfl) rfl aa λa h=>wpList_nil ?_
  refine bI (cA h (b:=false) rfl (λhh=>by cases hh) (λ_=>.exit ?_))
  exact bI (cq (b5 h .c aa λa h=>wpList_nil (.ret (iH (RR:=λe w'=>br (λ_=>False) w w'/\e=.returned (.bool true)) h rfl ⟨Kd,rfl⟩))))
end
structure ZS where
 T:Nat
 kt:Nat
 tTags:Nat
 fTS:Nat
abbrev ZF:=Nat × Nat × Nat × Option eH × Int
def kS (z:ZS):List ZF->Nat->Nat->List Oper
 | [],q,i=>[gd (q+1) (.fieldAddr z.T (tm 2) z.kt) i true,gd (q+2) (.load z.tTags (tm (q+1))) i true,gd (q+3) (.fieldAddr z.T (tm 3) z.kt) i true,gd (q+4) (.load z.tTags (tm (q+3))) i true,
  gd (q+5) (.call ⟨.value (.func z.fTS),[tm (q+2),tm (q+4)].toArray,#[]⟩) i true,mk (some (q+6)) (.pick (tm q) (tm (q+5)) (.const (.bool false))),mk (some 4) (.assign (tm (q+6)))]
 | f::r,q,i=>gd (q+1) (.fieldAddr z.T (tm 2) f.1) i true::gd (q+2) (.load f.2.1 (tm (q+1))) i true::gd (q+3) (.fieldAddr z.T (tm 3) f.1) i true::gd (q+4) (.load f.2.1 (tm (q+3))) i true ::
  gd (q+5) (.binOp .eql f.2.1 (tm (q+2)) (tm (q+4)) 0) i true::mk (some (q+6)) (.pick (tm q) (tm (q+5)) (.const (.bool false)))::mk (some (q+7)) (.move (tm (q+6)))::kS z r (q+7) (i+7)
def FW (z:ZS)(f:ZF):List Oper:=[mk (some 5) (.fieldAddr z.T (tm 2) f.1),mk (some 6) (.load f.2.1 (tm 5)),mk (some 7) (.fieldAddr z.T (tm 3) f.1),mk (some 8) (.load f.2.1 (tm 7)),mk (some 9) (.binOp .eql f.2.1 (tm 6) (tm 8) 0),mk (some 10) (.move (tm 9))]
def cZS (z:ZS)(f:ZF)(r:List ZF):Code:=
 .seq (rg [mk (some 2) (.box z.T (tm 0)),mk (some 3) (.box z.T (tm 1)),mk (some 4) (.assign (.const (.bool false)))]) (.seq (rg (FW z f++kS z r 10 5)) .ret)
section
variable {P:Program}
theorem uo {p:Option eH}{df:Int}{y:Value}(h:kH p y)(T:Nat)(x z:Operand)(w:World):(eqGuard .eql T x z y (pv p df)).run P w=.ok () w/\(binOp .eql T y (pv p df)).run P w=.ok (.bool (gY p df y)) w:=by
 cases p with
 | some q=>
  obtain⟨n,rfl⟩:=h
  refine⟨by simp[eqGuard],?_⟩
  have e:(n==df)=decide (n=df):=by rw[Bool.eq_iff_iff];simp
  show(binOp .eql T (.int q.kind n) (.int q.kind df)).run P w=.ok (.bool (n==df)) w
  rw[e]
  exact jK (.inr (.inr (.inr (.inr (.inl ⟨rfl,rfl⟩)))))
 | none=>
  obtain⟨l,rfl⟩:=h
  refine⟨by simp[eqGuard],?_⟩
  have e:((⟨l.toArray⟩:ByteArray).toList==(⟨#[]⟩:ByteArray).toList)=(⟨l.toArray⟩:ByteArray).data.toList.isEmpty:=by
   rw[ByteArray.toList_eq,ByteArray.toList_eq]
   cases l<;>rfl
  simp only[pv,gY,binOp,Op.stringOp,e,Sem.run_pure]
theorem rB {ops:Array Oper}{Q:Exit->Act->World->Prop}{r:List Oper}{d j TT k F B O off sz:Nat}{agg b:Bool}{x:Operand}{a:Act}{w:World}(hy:yielded ops a.tmps j=some b)(hx:a.eval x=pt B O)(hF:cO P TT k F off agg sz)
  (c:wpList P ops Q r (a.put (some d) (pt B (O+off))) w):wpList P ops Q (gd d (.fieldAddr TT x k) j b::r) a w:=by
 obtain⟨fs,f,h1,h2,h3,h4⟩:=hF.fld
 obtain⟨q,rfl⟩:∃ q,sz=q+1:=⟨sz-1,by have:=hF.pos;omega⟩
 simp only[pt]at hx
 have hn:∀ w,(sizeOf f.type).run P w=.ok (q+1) w:=λw=>by rw[h4];exact hF.var.size w
 refine iv hy ?_ c
 simp[execOp,mk,hx,Instr.fieldAt,run_underlying h1,h2,h3,fieldPlace,hn,Instr.sureAddr,Addr.add_lit,pt]
theorem t9 {ops:Array Oper}{Q:Exit->Act->World->Prop}{r:List Oper}{d j F B O sz:Nat}{b:Bool}{x:Operand}{v:Value}{a:Act}{w:World}(hy:yielded ops a.tmps j=some b)(hx:a.eval x=pt B O)(hF:cv P F false sz)(hv:w.cell? ⟨B,O,none⟩=some v)
  (c:wpList P ops Q r (a.put (some d) v) w):wpList P ops Q (gd d (.load F x) j b::r) a w:=by
 simp only[pt]at hx
 refine iv hy ?_ c
 simp[execOp,mk,hx,Instr.loadAt,Instr.sureAddr,loadVar,hF.agg w,load,hv,Sem.run]
theorem t8 {ops:Array Oper}{Q:Exit->Act->World->Prop}{r:List Oper}{d j F B O:Nat}{b:Bool}{x:Operand}{cs:List Value}{a:Act}{w:World}(hy:yielded ops a.tmps j=some b)(hx:a.eval x=pt B O)(hF:cv P F true cs.length)(hv:bB w B O cs)
  (c:wpList P ops Q r (a.put (some d) (.agg cs.toArray)) w):wpList P ops Q (gd d (.load F x) j b::r) a w:=by
 simp only[pt]at hx
 have hl:=run_loadCells_list (P:=P) w ⟨B,O,none⟩ cs (λj v hj=>by rw[Addr.add_lit];exact hv j v hj)
 refine iv hy ?_ c
 simp[execOp,mk,hx,Instr.loadAt,Instr.sureAddr,loadVar,hF.agg w,hF.size w,hl]
theorem Ad {ops:Array Oper}{Q:Exit->Act->World->Prop}{r:List Oper}{d j f:Nat}{b:Bool}{args:List Operand}{vs:List Value}{R:Ending->World->Prop}{a:Act}{w:World}(hy:yielded ops a.tmps j=some b)(hf:Ent P f)(J4:args.map a.eval=vs)(hc:Calls P f vs.toArray w R)
  (c:∀ e w',R e w'->∃ v,e=.returned v/\wpList P ops Q r (a.put (some d) v) w'):wpList P ops Q (gd d (.call ⟨.value (.func f),args.toArray,#[]⟩) j b::r) a w:=by
 refine rA hy ?_
 unfold Oper.wp
 have : (execOp a.eval (⟨some d, .call ⟨.value (.func f), args.toArray, #[]⟩, 0, "", #[], some (j, b)⟩ : Oper)).run P w = .ok (.enter f vs.toArray) w := by
  have he:a.eval (.func f)=.func (.func f) #[] #[]:=rfl
  have Qy:(args.map a.eval).toArray=vs.toArray:=by rw[J4]
  simp only[execOp,resolve,he,Deferred.ofValue,invoke,Sem.run_bind,Sem.run_pure,Result.andThen_ok,Array.empty_append,Array.append_empty,List.map_toArray,Qy]
  exact hf _ _
 rw[this]
 exact hc.mono λe w' hR=>by
  obtain⟨v,rfl,hk⟩:=c e w' hR
  exact hk
structure ZI (N q bx bz:Nat)(b:Bool)(a:Act):Prop where
 gq:a.get q=.bool b
 g2:a.get 2=pt bx 0
 g3:a.get 3=pt bz 0
 size:a.tmps.size=N
 defers:a.defers=[]
theorem ZI.put {N q bx bz d:Nat}{b:Bool}{a:Act}(h:ZI N q bx bz b a)(hq:3<q)(hd:q<d)(v:Value):ZI N q bx bz b (a.put (some d) v):=
 ⟨by rw[b8 aa];exact h.gq,by rw[b8 aa];exact h.g2,by rw[b8 aa];exact h.g3,by rw[bq];exact h.size,by rw[b6];exact h.defers⟩
theorem ZI.yd {N q bx bz i:Nat}{b:Bool}{a:Act}{ops:Array Oper}(h:ZI N q bx bz b a)(hi:∃ o,ops[i]?=some o/\o.dst=some q)(hq:q<N):yielded ops a.tmps i=some b:=by
 obtain⟨o,h1,h2⟩:=hi
 exact dz h1 h2 (by rw[h.size];exact hq) h.gq
theorem vk {z:ZS}{N bx bz:Nat}{x zc:List Value}{m:Option Nat}{toff:Nat}{ops:Array Oper}{Q:Exit->Act->World->Prop}{w:World}(hE:Ent P z.fTS)(hT:TsC P z.fTS)(QP:cv P z.tTags true 1)(Mj:cO P z.T z.kt z.tTags toff true 1)(hx:bB w bx 0 x)(hz:bB w bz 0 zc)(PR:x[toff]?=some (.map m))(NW:zc[toff]?=some (.map none)) :
  ∀ (l:List ZF) (q i:Nat) (b:Bool) (a:Act),3<q->(∀ j o,(kS z l q i)[j]?=some o->ops[i+1+j]?=some o)->(∃ o,ops[i]?=some o/\o.dst=some q)->ZI N q bx bz b a->q+7*l.length+7<=N ->
  (∀ f∈l,cO P z.T f.1 f.2.1 f.2.2.1 false 1/\zc[f.2.2.1]?=some (pv f.2.2.2.1 f.2.2.2.2)/\∃ y,x[f.2.2.1]?=some y/\kH f.2.2.2.1 y) ->
  (∀ a' w',br (λ_=>False) w w'->a'.get 4=.bool (b&&((l.all λf=>gY f.2.2.2.1 f.2.2.2.2 ((x[f.2.2.1]?).getD undef))&&m.isNone))->a'.defers=[]->Q .normal a' w')->wpList P ops Q (kS z l q i) a w
 | [],q,i,b,a,hq,_,hi,hI,hN,_,h=>by
  simp only[List.length_nil,Nat.mul_zero,Nat.add_zero]at hN
  unfold kS
  cases b with
  | false=>
   have Md:=hI.put hq (d:=q+1) aa undef
   refine fr (hI.yd hi aa) ab ?_
   have N1:=Md.put hq (d:=q+2) aa undef
   refine fr (Md.yd hi aa) ab ?_
   have Na:=N1.put hq (d:=q+3) aa undef
   refine fr (N1.yd hi aa) ab ?_
   have KL:=Na.put hq (d:=q+4) aa undef
   refine fr (Na.yd hi aa) ab ?_
   have Kw:=KL.put hq (d:=q+5) aa undef
   refine fr (KL.yd hi aa) ab ?_
   refine ir (b:=false) Kw.gq (b7 (wpList_nil (h _ w (br.refl _ _) ?_ ?_)))
   ·have hs:=Kw.size
    rw[bA (by simp only[bq]at hs ⊢;omega),bp,bA (by simp only[bq]at hs ⊢;omega)]
    simp
    rfl
   ·simp only[b6];exact hI.defers
  | true=>
   refine rB (hI.yd hi aa) (by rw[bp];exact hI.g2) Mj ?_
   have Md:=hI.put hq (d:=q+1) aa (pt bx (0+toff))
   have e1:(a.put (some (q+1)) (pt bx (0+toff))).get (q+1)=pt bx (0+toff):=bA (by have:=hI.size;omega)
   generalize a.put (some (q+1)) (pt bx (0+toff))=a1 at Md e1 ⊢
   refine t8 (cs:=[.map m]) (Md.yd hi aa) (by rw[bp];exact e1) QP (λj c hj=>?_) ?_
   ·cases j with
    | zero=>simp only[aV,aM]at hj;subst hj;exact hx toff _ PR
    | succ j=>simp at hj
   have N1:=Md.put hq (d:=q+2) aa (.agg [.map m].toArray)
   have e2:(a1.put (some (q+2)) (.agg [.map m].toArray)).get (q+2)=.agg [.map m].toArray:=bA (by have:=Md.size;omega)
   generalize a1.put (some (q+2)) (.agg [.map m].toArray)=a2 at N1 e2 ⊢
   refine rB (N1.yd hi aa) (by rw[bp];exact N1.g3) Mj ?_
   have Na:=N1.put hq (d:=q+3) aa (pt bz (0+toff))
   have e3:(a2.put (some (q+3)) (pt bz (0+toff))).get (q+3)=pt bz (0+toff):=bA (by have:=N1.size;omega)
   have e23:(a2.put (some (q+3)) (pt bz (0+toff))).get (q+2)=.agg [.map m].toArray:=by rw[b8 aa];exact e2
   generalize a2.put (some (q+3)) (pt bz (0+toff))=a3 at Na e3 e23 ⊢
   refine t8 (cs:=[.map none]) (Na.yd hi aa) (by rw[bp];exact e3) QP (λj c hj=>?_) ?_
   ·cases j with
    | zero=>simp only[aV,aM]at hj;subst hj;exact hz toff _ NW
    | succ j=>simp at hj
   have KL:=Na.put hq (d:=q+4) aa (.agg [.map none].toArray)
   have e4:(a3.put (some (q+4)) (.agg [.map none].toArray)).get (q+4)=.agg [.map none].toArray:=bA (by have:=Na.size;omega)
   have e24:(a3.put (some (q+4)) (.agg [.map none].toArray)).get (q+2)=.agg [.map m].toArray:=by rw[b8 aa];exact e23
   generalize a3.put (some (q+4)) (.agg [.map none].toArray)=a4 at KL e4 e24 ⊢
   refine Ad (vs:=[.agg #[.map m],.agg #[.map none]]) (KL.yd hi aa) hE (by simp only[List.map_cons,List.map_nil,bp,e4,e24]) (hT w m) λe w' hR=>?_
   obtain⟨hk,rfl⟩:=hR
   refine⟨_,rfl,?_⟩
   have Kw:=KL.put hq (d:=q+5) aa (.bool m.isNone)
   have e5:(a4.put (some (q+5)) (.bool m.isNone)).get (q+5)=.bool m.isNone:=bA (by have:=KL.size;omega)
   generalize a4.put (some (q+5)) (.bool m.isNone)=a5 at Kw e5 ⊢
   refine ir (b:=true) Kw.gq (b7 (wpList_nil (h _ w' hk ?_ ?_)))
   ·have hs:=Kw.size
    rw[bA (by simp only[bq];omega),bp,bA aa]
    simp only[aw,bp,e5,List.all_nil,Bool.true_and]
   ·simp only[b6];exact Kw.defers
 | f::r,q,i,b,a,hq,MK,hi,hI,hN,hf,h=>by
  simp only[List.length_cons]at hN
  obtain⟨hF,V5,y,PQ,Rs⟩:=hf f (aB ..)
  have M6:∃ o,ops[i+7]?=some o/\o.dst=some (q+7):=by
   have:=MK 6 (mk (some (q+7)) (.move (tm (q+6)))) (by simp[kS])
   exact⟨_,by rw[show i+7=i+1+6 by omega];exact this,rfl⟩
  have QE:∀ j o,(kS z r (q+7) (i+7))[j]?=some o->ops[i+7+1+j]?=some o:=λj o hj=>by
   have:=MK (j+7) o (by simpa[kS]using hj)
   rw[show i+7+1+j=i+1+(j+7) by omega]
   exact this
  have Mq:((f::r).all λf=>gY f.2.2.2.1 f.2.2.2.2 ((x[f.2.2.1]?).getD undef))=(gY f.2.2.2.1 f.2.2.2.2 y&&r.all λf=>gY f.2.2.2.1 f.2.2.2.2 ((x[f.2.2.1]?).getD undef)):=by
   rw[List.all_cons,PQ];rfl
  rw[Mq]at h
  unfold kS
  cases b with
  | false=>
   have Md:=hI.put hq (d:=q+1) aa undef
   refine fr (hI.yd hi aa) ab ?_
   have N1:=Md.put hq (d:=q+2) aa undef
   refine fr (Md.yd hi aa) ab ?_
   have Na:=N1.put hq (d:=q+3) aa undef
   refine fr (N1.yd hi aa) ab ?_
   have KL:=Na.put hq (d:=q+4) aa undef
   refine fr (Na.yd hi aa) ab ?_
   have Kw:=KL.put hq (d:=q+5) aa undef
   refine fr (KL.yd hi aa) ab ?_
   generalize((((a.put (some (q+1)) undef).put (some (q+2)) undef).put (some (q+3)) undef).put (some (q+4)) undef).put (some (q+5)) undef=a5 at Kw ⊢
   refine ir (b:=false) Kw.gq ?_
   have L2:=Kw.put hq (d:=q+6) aa (.bool false)
   have e6:(a5.put (some (q+6)) (.bool false)).get (q+6)=.bool false:=bA (by have:=Kw.size;omega)
   show wpList P ops Q _ (a5.put (some (q+6)) (.bool false)) w
   generalize a5.put (some (q+6)) (.bool false)=a6 at L2 e6 ⊢
   refine bv ?_
   rw[bp,e6]
   have hs:=L2.size
   exact vk hE hT QP Mj hx hz PR NW r (q+7) (i+7) false _ aa QE M6 ⟨bA aa,by rw[b8 aa];exact L2.g2,by rw[b8 aa];exact L2.g3,by simpa only[bq]using hs,by simpa only[b6]using L2.defers⟩ aa (λg hg=>hf g (aA _ hg)) λa' w' hk h4 hd=>h a' w' hk (by rw[h4];simp) hd
  | true=>
   refine rB (hI.yd hi aa) (by rw[bp];exact hI.g2) hF ?_
   have Md:=hI.put hq (d:=q+1) aa (pt bx (0+f.2.2.1))
   have e1:(a.put (some (q+1)) (pt bx (0+f.2.2.1))).get (q+1)=pt bx (0+f.2.2.1):=bA (by have:=hI.size;omega)
   generalize a.put (some (q+1)) (pt bx (0+f.2.2.1))=a1 at Md e1 ⊢
   refine t9 (Md.yd hi aa) (by rw[bp];exact e1) hF.var (hx _ _ PQ) ?_
   have N1:=Md.put hq (d:=q+2) aa y
   have e2:(a1.put (some (q+2)) y).get (q+2)=y:=bA (by have:=Md.size;omega)
   generalize a1.put (some (q+2)) y=a2 at N1 e2 ⊢
   refine rB (N1.yd hi aa) (by rw[bp];exact N1.g3) hF ?_
   have Na:=N1.put hq (d:=q+3) aa (pt bz (0+f.2.2.1))
   have e3:(a2.put (some (q+3)) (pt bz (0+f.2.2.1))).get (q+3)=pt bz (0+f.2.2.1):=bA (by have:=N1.size;omega)
   have e23:(a2.put (some (q+3)) (pt bz (0+f.2.2.1))).get (q+2)=y:=by rw[b8 aa];exact e2
   generalize a2.put (some (q+3)) (pt bz (0+f.2.2.1))=a3 at Na e3 e23 ⊢
   refine t9 (Na.yd hi aa) (by rw[bp];exact e3) hF.var (hz _ _ V5) ?_
   have KL:=Na.put hq (d:=q+4) aa (pv f.2.2.2.1 f.2.2.2.2)
   have e4:(a3.put (some (q+4)) (pv f.2.2.2.1 f.2.2.2.2)).get (q+4)=pv f.2.2.2.1 f.2.2.2.2:=bA (by have:=Na.size;omega)
   have e24:(a3.put (some (q+4)) (pv f.2.2.2.1 f.2.2.2.2)).get (q+2)=y:=by rw[b8 aa];exact e23
   generalize a3.put (some (q+4)) (pv f.2.2.2.1 f.2.2.2.2)=a4 at KL e4 e24 ⊢
   obtain⟨r1,r2⟩:=uo (P:=P) (df:=f.2.2.2.2) Rs f.2.1 (tm (q+2)) (tm (q+4)) w
   refine iv (v:=.bool (gY f.2.2.2.1 f.2.2.2.2 y)) (KL.yd hi aa) (by
    have e2':a4.eval (tm (q+2))=y:=e24
    have e4':a4.eval (tm (q+4))=pv f.2.2.2.1 f.2.2.2.2:=e4
    simp only[execOp,mk,e2',e4',Sem.run_bind,r1,r2,Result.andThen_ok,Sem.run_pure]) ?_
   have Kw:=KL.put hq (d:=q+5) aa (.bool (gY f.2.2.2.1 f.2.2.2.2 y))
   have e5:(a4.put (some (q+5)) (.bool (gY f.2.2.2.1 f.2.2.2.2 y))).get (q+5)=.bool (gY f.2.2.2.1 f.2.2.2.2 y):=bA (by have:=KL.size;omega)
   generalize a4.put (some (q+5)) (.bool (gY f.2.2.2.1 f.2.2.2.2 y))=a5 at Kw e5 ⊢
   refine ir (b:=true) Kw.gq ?_
   simp only[aw]
   rw[bp,e5]
   have L2:=Kw.put hq (d:=q+6) aa (.bool (gY f.2.2.2.1 f.2.2.2.2 y))
   have e6:(a5.put (some (q+6)) (.bool (gY f.2.2.2.1 f.2.2.2.2 y))).get (q+6)=.bool (gY f.2.2.2.1 f.2.2.2.2 y):=bA (by have:=Kw.size;omega)
   generalize a5.put (some (q+6)) (.bool (gY f.2.2.2.1 f.2.2.2.2 y))=a6 at L2 e6 ⊢
   refine bv ?_
   rw[bp,e6]
   have hs:=L2.size
   exact vk hE hT QP Mj hx hz PR NW r (q+7) (i+7) (gY f.2.2.2.1 f.2.2.2.2 y) _ aa QE M6 ⟨bA aa,by rw[b8 aa];exact L2.g2,by rw[b8 aa];exact L2.g3,by simpa only[bq]using hs,by simpa only[b6]using L2.defers⟩ aa (λg hg=>hf g (aA _ hg)) λa' w' hk h4 hd=>h a' w' hk (by rw[h4,Bool.true_and,Bool.and_assoc]) hd
theorem zA (hm:P.follows .mixedOrders=true){fS N:Nat}{z:ZS}{f:ZF}{r:List ZF}{toff sz:Nat}(hfn:FnIs P fS N [4] (cZS z f r))(hN:7*r.length+17<=N)(hE:Ent P z.fTS)(hT:TsC P z.fTS)(QP:cv P z.tTags true 1)(Mj:cO P z.T z.kt z.tTags toff true 1)(hF:∀ g∈f::r,cO P z.T g.1 g.2.1 g.2.2.1 false 1)
  (w:World) (x zc:List Value) (m:Option Nat) (_hx:x.length=sz) (_hz:zc.length=sz) (PR:x[toff]?=some (.map m)) (NW:zc[toff]?=some (.map none)) (SG:∀ g∈f::r,zc[g.2.2.1]?=some (pv g.2.2.2.1 g.2.2.2.2)) (UW:∀ g∈f::r,∃ y,x[g.2.2.1]?=some y/\kH g.2.2.2.1 y) :
  Calls P fS ([.agg x.toArray,.agg zc.toArray]:List Value).toArray w λe w'=>br (λ_=>False) w w'/\e=.returned (.bool (((f::r).all λg=>gY g.2.2.2.1 g.2.2.2.2 ((x[g.2.2.1]?).getD undef))&&m.isNone)):=by
 refine fb hm hfn ab _ (by simp;omega) λa h=>?_
 unfold cZS
 refine bI (cq (fy (cs:=x) h (.t rfl) aa λa h=>?_))
 have J2:=bO w (.cells x.toArray z.T (0,0))
 have Jd:br (λ_=>False) w (w.alloc (.cells x.toArray z.T (0,0))):=br.alloc _ _ _
 have PP:(w.alloc (.cells x.toArray z.T (0,0))).heap.size=w.heap.size+1:=by simp
 generalize w.alloc (.cells x.toArray z.T (0,0))=w1 at J2 Jd PP ⊢
 refine fy (cs:=zc) h (.t rfl) aa λa h=>?_
 have JH:=bO w1 (.cells zc.toArray z.T (0,0))
 have IV:br (λ_=>False) w1 (w1.alloc (.cells zc.toArray z.T (0,0))):=br.alloc _ _ _
 generalize w1.alloc (.cells zc.toArray z.T (0,0))=w2 at JH IV ⊢
 have JC:bB w2 w.heap.size 0 x:=jM (F:=z.T) (by rw[IV.block _ aa id];exact J2)
 have JA:bB w2 w1.heap.size 0 zc:=jM (F:=z.T) JH
 have J0:=Jd.trans IV
 refine b5 h .c aa λa h=>wpList_nil ?_
 have h:St N a [(2,pt w.heap.size 0),(3,pt w1.heap.size 0)]:=h.pick ⟨rfl,rfl,trivial⟩
 obtain⟨y,PQ,Rs⟩:=UW f (aB ..)
 have V5:=SG f (aB ..)
 have V0:=hF f (aB ..)
 refine bI (cq ?_)
 show wpList P (FW z f++kS z r 10 5).toArray _ (mk (some 5) (.fieldAddr z.T (tm 2) f.1)::mk (some 6) (.load f.2.1 (tm 5))::mk (some 7) (.fieldAddr z.T (tm 3) f.1)::mk (some 8) (.load f.2.1 (tm 7))::mk (some 9) (.binOp .eql f.2.1 (tm 6) (tm 8) 0)::mk (some 10) (.move (tm 9))::kS z r 10 5) a w2
 refine cH h (.t rfl) V0 aa λa h=>ce h (.t rfl) V0.var (JC _ _ PQ) aa λa h=>cH h (.t rfl) V0 aa λa h=>ce h (.t rfl) V0.var (JA _ _ V5) aa λa h=>?_
 obtain⟨r1,r2⟩:=uo (P:=P) (df:=f.2.2.2.2) Rs f.2.1 (tm 6) (tm 8) w2
 refine bP (v:=.bool (gY f.2.2.2.1 f.2.2.2.2 y)) (w':=w2) (by
  have e2':a.eval (tm 6)=y:=h.get 6 _ rfl
  have e4':a.eval (tm 8)=pv f.2.2.2.1 f.2.2.2.2:=h.get 8 _ rfl
  simp only[execOp,mk,e2',e4',Sem.run_bind,r1,r2,Result.andThen_ok,Sem.run_pure]) ?_
 have h:=h.put (d:=9) (.bool (gY f.2.2.2.1 f.2.2.2.2 y)) aa
 generalize a.put (some 9) (.bool (gY f.2.2.2.1 f.2.2.2.2 y))=a at h ⊢
 refine b9 h (.t rfl) aa λa h=>?_
 have h:St N a [(10,.bool (gY f.2.2.2.1 f.2.2.2.2 y)),(2,pt w.heap.size 0),(3,pt w1.heap.size 0)]:=h.pick ⟨rfl,rfl,rfl,trivial⟩
 refine vk (N:=N) hE hT QP Mj JC JA PR NW r 10 5 _ a aa (λj o hj=>?_) ⟨mk (some 10) (.move (tm 9)),rfl,rfl⟩ ⟨h.get 10 _ rfl,h.get 2 _ rfl,h.get 3 _ rfl,h.size,h.defers⟩ aa (λg hg=>⟨hF g (aA _ hg),SG g (aA _ hg),UW g (aA _ hg)⟩) λa' w' hk h4 hd=>.ret ⟨hd,?_⟩
 ·show(FW z f++kS z r 10 5).toArray[5+1+j]?=some o
  rw[aQ,aO (by simp[FW])]
  simpa[FW]using hj
 ·rw[fc,h4,List.all_cons,PQ]
  exact⟨J0.trans hk,by rw[Bool.and_assoc];rfl⟩
def Gh (zz:Array Value)(s:Sm):Bool:=zz.size==s.sz&&iS zz s.toff (.map none)&&s.ds.all λq=>iS zz q.1 (pv q.2.1 q.2.2)
def IA (P:Program)(F:Nat)(l:List ZF):Bool:=l.all λg=>gC P F g.1 g.2.1 g.2.2.1 false 1
theorem smC_of (hm:P.follows .mixedOrders=true){s:Sm}{N:Nat}{z:ZS}{f:ZF}{r:List ZF}{zz:Array Value}(hfn:FnIs P s.fSame N [4] (cZS z f r))(hN:7*r.length+17<=N)(Yq:z.T=s.F)(hE:Ent P z.fTS)(hT:TsC P z.fTS)(QP:kE P z.tTags true 1=true)(Mj:gC P s.F z.kt z.tTags s.toff true 1=true)(hF:IA P s.F (f::r)=true)(Oy:s.ds=(f::r).map (·.2.2))
  (hV:kE P s.F true s.sz=true) (SH:∃ zv:Value,zv.cells.size=s.sz/\∀ w,(zeroValue s.F).run P w=.ok zv w) (hNE:Ent P s.fDef) (hNw:NwC P s.fDef zz) (P2:Gh zz s=true):SmC P s:=by
 simp only[Gh,ac,ar,aT]at P2
 obtain⟨⟨h1,h2⟩,h3⟩:=P2
 simp only[IA,aT]at hF
 refine⟨varB_ok hV,SH,hNE,λw=>(hNw w).mono λe w' hR=>?_,hfn.ent,λw x zc m hx hz PR NW SG UW=>?_⟩
 ·obtain⟨rfl,hk⟩:=hR
  refine⟨hk,zz.toList,by simp,by simpa using h1,by simpa using sW h2,λq hq=>by simpa using sW (h3 q hq)⟩
 ·have e:(s.ds.all λq=>gY q.2.1 q.2.2 ((x[q.1]?).getD undef))=((f::r).all λg=>gY g.2.2.2.1 g.2.2.2.2 ((x[g.2.2.1]?).getD undef)):=by
   rw[Oy,List.all_map];rfl
  rw[e]
  have LM:∀ g∈f::r,g.2.2∈s.ds:=λg hg=>by rw[Oy];exact List.mem_map_of_mem hg
  exact zA hm (toff:=s.toff) (sz:=s.sz) hfn hN hE hT (varB_ok QP) (by rw[Yq];exact fldB_ok Mj) (λg hg=>by rw[Yq];exact fldB_ok (hF g hg)) w x zc m hx hz PR NW (λg hg=>SG _ (LM g hg)) λg hg=>UW _ (LM g hg)
end
end
