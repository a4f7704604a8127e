/-
  PLAIN LAWS AND CONTRACTS of messages, part 15 of 15: how readers and writers are printed, what they do, what the reference writes, and that what is written is read as the same. Nothing of a statement stands here.
-/
import Derived.Test.YtlmanancakaapaaGreatDoorK1
import Derived.Test.YtlmanancakaapaaGreatDoorK3
import Derived.Test.YtlmanancakaapaaGreatDoorK4
import Derived.Test.YtlmanancakaapaaGreatDoorK7
import Derived.Test.YtlmanancakaapaaGreatDoorK8
import Derived.Test.YtlmanancakaapaaGreatDoorK9
import Derived.Test.YtlmanancakaapaaGreatDoorK10
import Derived.Test.YtlmanancakaapaaGreatDoorK12
import Derived.Test.YtlmanancakaapaaGreatDoorK14

namespace Go.Proofs.YtlmanancakaapaaGreatDoor.Kx
open Go
set_option maxRecDepth 100000
structure KE where
 fK:Nat
 fB:Nat
 fA:Nat
 fN:Nat
 fRd:Nat
 fAp:Nat
 fDf:Nat
 tM:Nat
 tE:Nat
 most:Int
def nwv_0 (_S:SN) (N:KE):List Oper:=[mk (some 0) (.alloc N.tM)]
def nwv_1 (_S:SN) (N:KE):List Oper:=[mk (some 1) (.alloc N.tM)]
def nwv_2 (_S:SN) (N:KE):List Oper:=[cl (some 2) N.fDf [(tm 1)]]
def nwv_3 (_S:SN) (N:KE):List Oper:=[mk (some 3) (.load N.tM (tm 1)),mk none (.store N.tM (tm 0) (tm 3))]
def cNwv (S:SN) (N:KE):Code:=
 (.seq (rg (nwv_0 S N))
 (.seq (rg (nwv_1 S N))
 (.seq (rg (nwv_2 S N))
 (.seq (rg (nwv_3 S N))
 .ret))))
end Go.Proofs.YtlmanancakaapaaGreatDoor.Kx

namespace Go.Proofs.YtlmanancakaapaaGreatDoor.Kx
open Go
set_option maxRecDepth 4000
section
variable {P:Program} {S:SN} {N:KE}
def NwC (P:Program) (fN:Nat) (z:Array Value):Prop:=∀ w,Calls P fN ([]:List Value).toArray w fun e w'=>e=.returned (.agg z)/\Keeps (fun _=>False) w w'
theorem nwv_calls (hm:P.follows .mixedOrders=true) {z:Array Value} {zv:Value} {wr:List (Nat × Value)} {n:Nat} (hfn:FnIsC P N.fN 4 0 N.tM (cNwv S N)) (zM:∀ w,(zeroValue N.tM).run P w=.ok zv w) (hE:Ent P N.fDf) (hD:DfC P N.fDf wr) (hwr:∀ p ∈ wr,p.1 < zv.cells.size) (hz:z=applyWr zv.cells 0 wr)
  (vM:jp_ P N.tM true n) (hn:z.size=n) (hone:∀ u ∈ z.toList,u.oneCell'=true) (hzs:zv.cells.size=n):NwC P N.fN z:=by
 intro w
 refine callsTC hm hfn [] (by simp) fun a h=>?_
 unfold cNwv
 refine nseq (nrg (st_alloc h (zM w) (by omega) fun a h=>wpList_nil ?_))
 have hn0:=qs_ w (.cells zv.cells N.tM (0,0))
 have hk0:Keeps (fun _=>False) w (w.alloc (.cells zv.cells N.tM (0,0))):=Keeps.alloc _ _ _
 have hz0:(w.alloc (.cells zv.cells N.tM (0,0))).heap.size=w.heap.size + 1:=by simp
 generalize w.alloc (.cells zv.cells N.tM (0,0))=w1 at hn0 hk0 hz0 ⊢
 refine nseq (nrg (st_alloc h (zM w1) (by omega) fun a h=>wpList_nil ?_))
 have hn1:=qs_ w1 (.cells zv.cells N.tM (0,0))
 have hk1:Keeps (fun _=>False) w1 (w1.alloc (.cells zv.cells N.tM (0,0))):=Keeps.alloc _ _ _
 have hz1:(w1.alloc (.cells zv.cells N.tM (0,0))).heap.size=w1.heap.size + 1:=by simp
 generalize w1.alloc (.cells zv.cells N.tM (0,0))=w2 at hn1 hk1 hz1 ⊢
 refine nseq (nrg (st_call h hE (vs:=[pt w1.heap.size 0]) (fun n a h=>by
  simp only [List.map_cons,List.map_nil]
  rw [Hd.t (l:=_) (i:=1) rfl n a h]) (hD _ w1.heap.size 0 zv.cells N.tM hn1 (fun p hp=>by simpa using hwr p hp)) (by omega) fun e w3 hR=>⟨_,hR.1,fun a h=>wpList_nil ?_⟩))
 obtain ⟨_,hk3,hb3⟩:=hR
 have hb3':w3.heap[w1.heap.size]?=some (.cells z N.tM (0,0)):=by rw [hb3,hz]
 have hb0:w3.heap[w.heap.size]?=some (.cells zv.cells N.tM (0,0)):=by rw [hk3.block _ (by omega) (by omega),hk1.block _ (by omega) id];exact hn0
 have hc3:qy_ w3 w1.heap.size 0 z.toList:=fun j c hj=>by
  simp only [World.cell?,hb3',Option.isSome_none,Bool.false_eq_true,if_false,Nat.zero_add]
  simpa using hj
 have hzl:z.toList.length=n:=by simpa using hn
 have hagg:Value.agg z.toList.toArray=.agg z:=by simp
 refine nseq (nrg (st_loadN h (cs:=z.toList) (.t rfl) (by rw [hzl];exact vM) hc3 (by omega) fun a h=>?_))
 refine st_store h (cs:=z.toList) (v:=.agg z.toList.toArray) (.t rfl) (.t rfl) (by simp [Value.cells]) (by rw [hzl];exact vM.size) hb0 (by rw [hzl];exact hzs) hone (wpList_nil ?_)
 have hfin:=setRow_heap _ _ _ z.toList.toArray _ _ hb0
 refine .ret ⟨h.defers,⟨w.heap.size,0,none⟩,.agg z.toList.toArray,h.get 0 _ rfl,?_,by rw [hagg],?_⟩
 ·have hll:=run_loadCells_list (P:=P) (w3.setRow w.heap.size z.toList.toArray) ⟨w.heap.size,0,none⟩ z.toList (fun j c hj=>by
   rw [Addr.add_lit]
   simp only [World.cell?,hfin,Option.isSome_none,Bool.false_eq_true,if_false,Nat.zero_add]
   simpa using hj)
  rw [hzl] at hll
  simp [loadVar,vM.agg,vM.size,hll]
 ·have hk:Keeps (fun k=>w.heap.size<=k) w (w3.setRow w.heap.size z.toList.toArray):=((((hk0.trans hk1).mono fun _ _ h=>h.elim).trans (hk3.mono fun k _ hk=>by omega))).trans (Keeps.setRow _ _ _ _ (Nat.le_refl _))
  exact hk.mono fun k hk hX=>by omega
end
end Go.Proofs.YtlmanancakaapaaGreatDoor.Kx

namespace Go.Proofs.YtlmanancakaapaaGreatDoor.Kx
open Go
set_option maxRecDepth 4000
structure ZT where
 tTags:Nat
 tM:Nat
 tB:Nat
 tInt:Nat
 tN:Nat
def cTS (z:ZT) (body:Code):Code:=
 .seq (rg [mk (some 2) (.box z.tTags (tm 0)),mk (some 3) (.box z.tTags (tm 1)),mk (some 4) (.assign (.const (.bool false)))])
 (.seq (.seq (rg [mk (some 9) (.fieldAddr z.tTags (tm 2) 0),mk (some 10) (.load z.tM (tm 9)),mk (some 11) (.binOp .eql z.tM (tm 10) (.const (.map none)) 0),mk (some 12) (.fieldAddr z.tTags (tm 3) 0),mk (some 13) (.load z.tM (tm 12)),mk (some 14) (.binOp .eql z.tM (tm 13) (.const (.map none)) 0),mk (some 15) (.binOp .neq z.tB (tm 11) (tm 14) 0),mk (some 16) (.move (tm 15)),
   gd 17 (.fieldAddr z.tTags (tm 2) 0) 7 false, gd 18 (.load z.tM (tm 17)) 7 false, ⟨some 19, .call ⟨.builtin .len, #[tm 18], #[z.tM]⟩, z.tInt, "", #[], some (7, false)⟩, gd 20 (.fieldAddr z.tTags (tm 3) 0) 7 false, gd 21 (.load z.tM (tm 20)) 7 false, ⟨some 22, .call ⟨.builtin .len, #[tm 21], #[z.tM]⟩, z.tInt, "", #[], some (7, false)⟩, gd 23 (.binOp .neq z.tInt (tm 19) (tm 22) 0) 7 false, mk (some 24) (.pick (tm 16) (.const (.bool true)) (tm 23))])
  (.cond (tm 24) (.seq (rg [mk (some 4) (.assign (.const (.bool false)))]) .ret) .skip))
 (.seq (.seq (rg [mk (some 25) (.fieldAddr z.tTags (tm 2) 0),mk (some 26) (.load z.tM (tm 25)),mk (some 27) (.range z.tM (tm 26))])
  (.block 0 (.loop (.seq (rg [⟨some 28, .next (tm 27) false, z.tN, "", #[], none⟩, mk (some 29) (.extract (tm 28) 0)]) (.seq (.cond (tm 29) .skip (.exit 0)) (.block 1 body))))))
 (.seq (rg [mk (some 4) (.assign (.const (.bool true)))]) .ret)))
def tsBody (c:Option Code):Code:=match c with
 | some (.seq _ (.seq _ (.seq (.seq _ (.block _ (.loop (.seq _ (.seq _ (.block _ b)))))) _)))=>b
 | _=>.skip
section
variable {P:Program} {S:SN}
theorem wg_none {ops:Array Oper} {Q:Exit->Act->World->Prop} {r:List Oper} {o:Oper} {d j:Nat} {b c:Bool} {a:Act} {w:World} (hg:o.guard=some (j,b)) (hod:o.dst=some d) (hy:yielded ops a.tmps j=some c) (hc:c ≠ b) (h:wpList P ops Q r (a.put (some d) undef) w):wpList P ops Q (o :: r) a w:=by
 unfold wpList
 rw [if_neg (by simp [Region.wanted,hg,hy,hc]),hod]
 exact h
theorem wn_next {ops : Array Oper} {Q : Exit -> Act -> World -> Prop} {r : List Oper} {d ty : Nat} {x : Operand} {v : Value} {a : Act} {w : World} (hx : (execOp a.eval (⟨some d, .next x false, ty, "", #[], none⟩ : Oper)).run P w = .ok (.value v) w) (h : wpList P ops Q r (a.put (some d) v) w) : wpList P ops Q (⟨some d, .next x false, ty, "", #[], none⟩ :: r) a w := by
 unfold wpList
 rw [if_pos (by simp [Region.wanted])]
 refine .inl ?_
 unfold Oper.wp
 rw [hx]
 exact h
theorem wg_len {ops:Array Oper} {Q:Exit->Act->World->Prop} {r:List Oper} {d j kt et tM ty:Nat} {b:Bool} {x:Operand} {a:Act} {w:World} (hy:yielded ops a.tmps j=some b) (hM:P.underlying tM=some (.map kt et)) (hx:a.eval x=.map none)
  (h : wpList P ops Q r (a.put (some d) (.int .i64 0)) w) : wpList P ops Q (⟨some d, .call ⟨.builtin .len, #[x], #[tM]⟩, ty, "", #[], some (j, b)⟩ :: r) a w := by
 unfold wpList
 rw [if_pos (by simp [Region.wanted,hy])]
 refine .inl ?_
 unfold Oper.wp
 have : (execOp a.eval (⟨some d, .call ⟨.builtin .len, #[x], #[tM]⟩, ty, "", #[], some (j, b)⟩ : Oper)).run P w = .ok (.value (.int .i64 0)) w := by
  simp [execOp,resolve,invoke,hx,builtin,Builtin.len_,run_underlying hM,goInt]
 rw [this]
 exact h
theorem st_mapNil {ops:Array Oper} {Q:Exit->Act->World->Prop} {r:List Oper} {n d tM kt et:Nat} {a:Act} {w:World} {l:List (Nat × Value)} (h:St n a l) {x:Operand} {m:Option Nat} (hM:P.underlying tM=some (.map kt et)) (hx:Hd l x (.map m)) (hd:d < n)
  (c:∀ a',St n a' ((d,.bool m.isNone) :: l)->wpList P ops Q r a' w):wpList P ops Q (mk (some d) (.binOp .eql tM x (.const (.map none)) 0) :: r) a w:=wl_mapNil hM (hx n a h) (c _ (h.put _ hd))
theorem st_bneq {ops:Array Oper} {Q:Exit->Act->World->Prop} {r:List Oper} {n d tB:Nat} {a:Act} {w:World} {l:List (Nat × Value)} (h:St n a l) {x y:Operand} {p q:Bool} (hB:P.underlying tB=some .bool) (hx:Hd l x (.bool p)) (hy:Hd l y (.bool q)) (hd:d < n)
  (c:∀ a',St n a' ((d,.bool (p != q)) :: l)->wpList P ops Q r a' w):wpList P ops Q (mk (some d) (.binOp .neq tB x y 0) :: r) a w:=by
 refine qn_ ?_ (c _ (h.put _ hd))
 have he:(eqGuard .neq tB x y (.bool p) (.bool q)).run P w=.ok () w:=by simp [eqGuard]
 have hb:(binOp .neq tB (.bool p) (.bool q)).run P w=.ok (.bool (p != q)) w:=by
  simp only [binOp,Op.equal,Op.maxDepth,Sem.run_bind,run_equalIn_bool w 9999 tB p q hB,Result.andThen_ok,Sem.run_pure]
  rfl
 simp only [execOp,mk,hx n a h,hy n a h,Sem.run_bind,he,hb,Result.andThen_ok,Sem.run_pure]
def TsC (P:Program) (f:Nat):Prop:=∀ (w:World) (m:Option Nat),Calls P f ([.agg #[.map m],.agg #[.map none]]:List Value).toArray w fun e w'=>Keeps (fun _=>False) w w'/\e=.returned (.bool m.isNone)
theorem ts_calls (hm:P.follows .mixedOrders=true) {f:Nat} {z:ZT} {body:Code} {kt et:Nat} (hfn:FnIs P f 56 [4] (cTS z body)) (hM:P.underlying z.tM=some (.map kt et)) (hB:P.underlying z.tB=some .bool) (hF:zj_ P z.tTags 0 z.tM 0 false 1):TsC P f:=by
 intro w m
 refine callsT hm hfn (by simp) _ (by simp) fun a h=>?_
 unfold cTS
 refine nseq (nrg (st_box (cs:=[.map m]) h (.t rfl) (by omega) fun a h=>?_))
 have hb1:=qs_ w (.cells #[.map m] z.tTags (0,0))
 have hk1:Keeps (fun _=>False) w (w.alloc (.cells #[.map m] z.tTags (0,0))):=Keeps.alloc _ _ _
 have hz1:(w.alloc (.cells #[.map m] z.tTags (0,0))).heap.size=w.heap.size + 1:=by simp
 show wpList P _ _ _ _ (w.alloc (.cells #[.map m] z.tTags (0,0)))
 generalize w.alloc (.cells #[.map m] z.tTags (0,0))=w1 at hb1 hk1 hz1 ⊢
 refine st_box (cs:=[.map none]) h (.t rfl) (by omega) fun a h=>?_
 have hb2:=qs_ w1 (.cells #[.map none] z.tTags (0,0))
 have hk2:Keeps (fun _=>False) w1 (w1.alloc (.cells #[.map none] z.tTags (0,0))):=Keeps.alloc _ _ _
 show wpList P _ _ _ _ (w1.alloc (.cells #[.map none] z.tTags (0,0)))
 generalize w1.alloc (.cells #[.map none] z.tTags (0,0))=w2 at hb2 hk2 ⊢
 have hc1:w2.cell? ⟨w.heap.size,0 + 0,none⟩=some (.map m):=by
  have:w2.heap[w.heap.size]?=some (.cells #[.map m] z.tTags (0,0)):=by rw [hk2.block _ (by omega) id];exact hb1
  simp [World.cell?,this]
 have hc2:w2.cell? ⟨w1.heap.size,0 + 0,none⟩=some (.map none):=by simp [World.cell?,hb2]
 have hk02:=hk1.trans hk2
 refine st_assign h .c (by omega) fun a h=>wpList_nil ?_
 have h:St 56 a [(2,pt w.heap.size 0),(3,pt w1.heap.size 0)]:=h.pick ⟨rfl,rfl,trivial⟩
 refine nseq (nseq (nrg (st_fld h (.t rfl) hF (by omega) fun a h=>st_load1 h (.t rfl) hF.var hc1 (by omega) fun a h=>st_mapNil h hM (.t rfl) (by omega) fun a h=>st_fld h (.t rfl) hF (by omega) fun a h=>st_load1 h (.t rfl) hF.var hc2 (by omega) fun a h=>st_mapNil h hM (.t rfl) (by omega) fun a h=>st_bneq h hB (.t rfl) (.t rfl) (by omega) fun a h=>st_move h (.t rfl) (by omega) fun a h=>?_)))
 cases m with
 | some r=>
  have h:St 56 a [(15,.bool true),(16,.bool true)]:=h.pick ⟨rfl,rfl,trivial⟩
  refine st_gskip h (b':=true) rfl rfl rfl (by omega) (by simp) (by omega) fun a h=>st_gskip h (b':=true) rfl rfl rfl (by omega) (by simp) (by omega) fun a h=>?_
  refine wg_none rfl rfl (zb_ rfl rfl (by rw [h.size];omega) (h.get 16 (.bool true) rfl)) (by simp) ?_
  have h:=h.put (d:=19) undef (by omega)
  generalize a.put (some 19) undef=a at h ⊢
  refine st_gskip h (b':=true) rfl rfl rfl (by omega) (by simp) (by omega) fun a h=>st_gskip h (b':=true) rfl rfl rfl (by omega) (by simp) (by omega) fun a h=>?_
  refine wg_none rfl rfl (zb_ rfl rfl (by rw [h.size];omega) (h.get 16 (.bool true) rfl)) (by simp) ?_
  have h:=h.put (d:=22) undef (by omega)
  generalize a.put (some 22) undef=a at h ⊢
  refine st_gskip h (b':=true) rfl rfl rfl (by omega) (by simp) (by omega) fun a h=>st_pick h (.t rfl) .c (.t rfl) (by omega) fun a h=>wpList_nil ?_
  refine st_if h (b:=true) rfl (fun _=>?_) (fun hh=>by cases hh)
  exact nseq (nrg (st_assign h .c (by omega) fun a h=>wpList_nil (.ret (ret1 (RR:=fun e w'=>Keeps (fun _=>False) w w'/\e=.returned (.bool false)) h rfl ⟨hk02,rfl⟩))))
 | none=>
  refine sg_fld h (b:=false) rfl rfl rfl (by omega) (.t rfl) hF (by omega) fun a h=>sg_load1 h (b:=false) rfl rfl rfl (by omega) (.t rfl) hF.var hc1 (by omega) fun a h=>?_
  refine wg_len (b:=false) (zb_ rfl rfl (by rw [h.size];omega) (h.get 16 (.bool false) rfl)) hM (h.get 18 _ rfl) ?_
  have h:=h.put (d:=19) (.int .i64 0) (by omega)
  generalize a.put (some 19) (.int .i64 0)=a at h ⊢
  refine sg_fld h (b:=false) rfl rfl rfl (by omega) (.t rfl) hF (by omega) fun a h=>sg_load1 h (b:=false) rfl rfl rfl (by omega) (.t rfl) hF.var hc2 (by omega) fun a h=>?_
  refine wg_len (b:=false) (zb_ rfl rfl (by rw [h.size];omega) (h.get 16 (.bool false) rfl)) hM (h.get 21 _ rfl) ?_
  have h:=h.put (d:=22) (.int .i64 0) (by omega)
  generalize a.put (some 22) (.int .i64 0)=a at h ⊢
  refine sg_cmp h (b:=false) rfl rfl rfl (by omega) rfl (.t rfl) (.t rfl) (by omega) fun a h=>st_pick h (.t rfl) .c (.t rfl) (by omega) fun a h=>wpList_nil ?_
  have h:St 56 a [(2,pt w.heap.size 0),(24,.bool false)]:=h.pick ⟨rfl,rfl,trivial⟩
  refine st_if h (b:=false) rfl (fun hh=>by cases hh) (fun _=>.skip ?_)
  refine nseq (nseq (nrg (st_fld h (.t rfl) hF (by omega) fun a h=>st_load1 h (.t rfl) hF.var hc1 (by omega) fun a h=>?_)))
  refine qn_ (v:=pt w2.heap.size 0) (w':=w2.alloc (.mapIter none 0 #[] 0)) (by
   have e:=h.get 26 (.map none) rfl
   have e':a.eval (tm 26)=.map none:=e
   simp [execOp,mk,e',Instr.range,run_underlying hM,newObj,Sem.run,pt]) (wpList_nil ?_)
  have h:=h.put (d:=27) (pt w2.heap.size 0) (by omega)
  generalize a.put (some 27) (pt w2.heap.size 0)=a at h ⊢
  have hb3:=qs_ w2 (.mapIter none 0 #[] 0)
  have hk3:Keeps (fun _=>False) w2 (w2.alloc (.mapIter none 0 #[] 0)):=Keeps.alloc _ _ _
  generalize w2.alloc (.mapIter none 0 #[] 0)=w3 at hb3 hk3 ⊢
  have hk03:=hk02.trans hk3
  refine .block (.loop (fun a' w'=>a'=a/\w'=w3) (fun _ _=>0) ⟨rfl,rfl⟩ ?_)
  rintro a' w' ⟨rfl,rfl⟩
  refine nseq (nrg ?_)
  refine wn_next (v:=.tuple #[.bool false]) (by
   have e':a'.eval (tm 27)=pt w2.heap.size 0:=h.get 27 _ rfl
   simp only [pt] at e'
   simp [execOp,e',Instr.next,getObj,Sem.run,hb3]) ?_
  have h:=h.put (d:=28) (.tuple #[.bool false]) (by omega)
  generalize a'.put (some 28) (.tuple #[.bool false])=a at h ⊢
  refine st_extract h (.t rfl) rfl (by omega) fun a h=>wpList_nil ?_
  refine nseq (st_if h (b:=false) rfl (fun hh=>by cases hh) (fun _=>.exit ?_))
  exact nseq (nrg (st_assign h .c (by omega) fun a h=>wpList_nil (.ret (ret1 (RR:=fun e w'=>Keeps (fun _=>False) w w'/\e=.returned (.bool true)) h rfl ⟨hk03,rfl⟩))))
end
structure ZS where
 T:Nat
 kt:Nat
 tTags:Nat
 fTS:Nat
abbrev ZF:=Nat × Nat × Nat × Option Prim × Int
def zsGrp (z:ZS):List ZF->Nat->Nat->List Oper
 | [],q,i=>[gd (q + 1) (.fieldAddr z.T (tm 2) z.kt) i true,gd (q + 2) (.load z.tTags (tm (q + 1))) i true,gd (q + 3) (.fieldAddr z.T (tm 3) z.kt) i true,gd (q + 4) (.load z.tTags (tm (q + 3))) i true,
  gd (q + 5) (.call ⟨.value (.func z.fTS),[tm (q + 2),tm (q + 4)].toArray,#[]⟩) i true,mk (some (q + 6)) (.pick (tm q) (tm (q + 5)) (.const (.bool false))),mk (some 4) (.assign (tm (q + 6)))]
 | f :: r,q,i=>gd (q + 1) (.fieldAddr z.T (tm 2) f.1) i true :: gd (q + 2) (.load f.2.1 (tm (q + 1))) i true :: gd (q + 3) (.fieldAddr z.T (tm 3) f.1) i true :: gd (q + 4) (.load f.2.1 (tm (q + 3))) i true ::
  gd (q + 5) (.binOp .eql f.2.1 (tm (q + 2)) (tm (q + 4)) 0) i true :: mk (some (q + 6)) (.pick (tm q) (tm (q + 5)) (.const (.bool false))) :: mk (some (q + 7)) (.move (tm (q + 6))) :: zsGrp z r (q + 7) (i + 7)
def zs0 (z:ZS) (f:ZF):List Oper:=[mk (some 5) (.fieldAddr z.T (tm 2) f.1),mk (some 6) (.load f.2.1 (tm 5)),mk (some 7) (.fieldAddr z.T (tm 3) f.1),mk (some 8) (.load f.2.1 (tm 7)),mk (some 9) (.binOp .eql f.2.1 (tm 6) (tm 8) 0),mk (some 10) (.move (tm 9))]
def cZS (z:ZS) (f:ZF) (r:List ZF):Code:=
 .seq (rg [mk (some 2) (.box z.T (tm 0)),mk (some 3) (.box z.T (tm 1)),mk (some 4) (.assign (.const (.bool false)))]) (.seq (rg (zs0 z f++zsGrp z r 10 5)) .ret)
section
variable {P:Program}
theorem run_pveq {p:Option Prim} {df:Int} {y:Value} (h:pvShape p y) (T:Nat) (x z:Operand) (w:World):(eqGuard .eql T x z y (pv p df)).run P w=.ok () w/\(binOp .eql T y (pv p df)).run P w=.ok (.bool (pvEq p df y)) w:=by
 cases p with
 | some q=>
  obtain ⟨n,rfl⟩:=h
  refine ⟨by simp [eqGuard],?_⟩
  have e:(n == df)=decide (n=df):=by rw [Bool.eq_iff_iff];simp
  show (binOp .eql T (.int q.kind n) (.int q.kind df)).run P w=.ok (.bool (n == df)) w
  rw [e]
  exact run_cmp (.inr (.inr (.inr (.inr (.inl ⟨rfl,rfl⟩)))))
 | none=>
  obtain ⟨l,rfl⟩:=h
  refine ⟨by simp [eqGuard],?_⟩
  have e:((⟨l.toArray⟩:ByteArray).toList == (⟨#[]⟩:ByteArray).toList)=(⟨l.toArray⟩:ByteArray).data.toList.isEmpty:=by
   rw [ByteArray.toList_eq,ByteArray.toList_eq]
   cases l <;> rfl
  simp only [pv,pvEq,binOp,Op.stringOp,e,Sem.run_pure]
theorem wg_fld {ops:Array Oper} {Q:Exit->Act->World->Prop} {r:List Oper} {d j TT k F B O off sz:Nat} {agg b:Bool} {x:Operand} {a:Act} {w:World} (hy:yielded ops a.tmps j=some b) (hx:a.eval x=pt B O) (hF:zj_ P TT k F off agg sz)
  (c:wpList P ops Q r (a.put (some d) (pt B (O + off))) w):wpList P ops Q (gd d (.fieldAddr TT x k) j b :: r) a w:=by
 obtain ⟨fs,f,h1,h2,h3,h4⟩:=hF.fld
 obtain ⟨q,rfl⟩:∃ q,sz=q + 1:=⟨sz - 1,by have:=hF.pos;omega⟩
 simp only [pt] at hx
 have hn:∀ w,(sizeOf f.type).run P w=.ok (q + 1) w:=fun w=>by rw [h4];exact hF.var.size w
 refine xf_ hy ?_ c
 simp [execOp,mk,hx,Instr.fieldAt,run_underlying h1,h2,h3,fieldPlace,hn,Instr.sureAddr,Addr.add_lit,pt]
theorem wg_load1 {ops:Array Oper} {Q:Exit->Act->World->Prop} {r:List Oper} {d j F B O sz:Nat} {b:Bool} {x:Operand} {v:Value} {a:Act} {w:World} (hy:yielded ops a.tmps j=some b) (hx:a.eval x=pt B O) (hF:jp_ P F false sz) (hv:w.cell? ⟨B,O,none⟩=some v)
  (c:wpList P ops Q r (a.put (some d) v) w):wpList P ops Q (gd d (.load F x) j b :: r) a w:=by
 simp only [pt] at hx
 refine xf_ hy ?_ c
 simp [execOp,mk,hx,Instr.loadAt,Instr.sureAddr,loadVar,hF.agg w,load,hv,Sem.run]
theorem wg_loadN {ops:Array Oper} {Q:Exit->Act->World->Prop} {r:List Oper} {d j F B O:Nat} {b:Bool} {x:Operand} {cs:List Value} {a:Act} {w:World} (hy:yielded ops a.tmps j=some b) (hx:a.eval x=pt B O) (hF:jp_ P F true cs.length) (hv:qy_ w B O cs)
  (c:wpList P ops Q r (a.put (some d) (.agg cs.toArray)) w):wpList P ops Q (gd d (.load F x) j b :: r) a w:=by
 simp only [pt] at hx
 have hl:=run_loadCells_list (P:=P) w ⟨B,O,none⟩ cs (fun j v hj=>by rw [Addr.add_lit];exact hv j v hj)
 refine xf_ hy ?_ c
 simp [execOp,mk,hx,Instr.loadAt,Instr.sureAddr,loadVar,hF.agg w,hF.size w,hl]
theorem wg_callL {ops:Array Oper} {Q:Exit->Act->World->Prop} {r:List Oper} {d j f:Nat} {b:Bool} {args:List Operand} {vs:List Value} {R:Ending->World->Prop} {a:Act} {w:World} (hy:yielded ops a.tmps j=some b) (hf:Ent P f) (hargs:args.map a.eval=vs) (hc:Calls P f vs.toArray w R)
  (c:∀ e w',R e w'->∃ v,e=.returned v/\wpList P ops Q r (a.put (some d) v) w'):wpList P ops Q (gd d (.call ⟨.value (.func f),args.toArray,#[]⟩) j b :: r) a w:=by
 refine wg_run hy ?_
 unfold Oper.wp
 have : (execOp a.eval (⟨some d, .call ⟨.value (.func f), args.toArray, #[]⟩, 0, "", #[], some (j, b)⟩ : Oper)).run P w = .ok (.enter f vs.toArray) w := by
  have he:a.eval (.func f)=.func (.func f) #[] #[]:=rfl
  have ha2:(args.map a.eval).toArray=vs.toArray:=by rw [hargs]
  simp only [execOp,resolve,he,Deferred.ofValue,invoke,Sem.run_bind,Sem.run_pure,Result.andThen_ok,Array.empty_append,Array.append_empty,List.map_toArray,ha2]
  exact hf _ _
 rw [this]
 exact hc.mono fun e w' hR=>by
  obtain ⟨v,rfl,hk⟩:=c e w' hR
  exact hk
structure ZI (N q bx bz:Nat) (b:Bool) (a:Act):Prop where
 gq:a.get q=.bool b
 g2:a.get 2=pt bx 0
 g3:a.get 3=pt bz 0
 size:a.tmps.size=N
 defers:a.defers=[]
theorem ZI.put {N q bx bz d:Nat} {b:Bool} {a:Act} (h:ZI N q bx bz b a) (hq:3 < q) (hd:q < d) (v:Value):ZI N q bx bz b (a.put (some d) v):=
 ⟨by rw [gpo (by omega)];exact h.gq,by rw [gpo (by omega)];exact h.g2,by rw [gpo (by omega)];exact h.g3,by rw [qa_];exact h.size,by rw [qf_];exact h.defers⟩
theorem ZI.yd {N q bx bz i:Nat} {b:Bool} {a:Act} {ops:Array Oper} (h:ZI N q bx bz b a) (hi:∃ o,ops[i]?=some o/\o.dst=some q) (hq:q < N):yielded ops a.tmps i=some b:=by
 obtain ⟨o,h1,h2⟩:=hi
 exact zb_ h1 h2 (by rw [h.size];exact hq) h.gq
theorem zs_grp {z:ZS} {N bx bz:Nat} {x zc:List Value} {m:Option Nat} {toff:Nat} {ops:Array Oper} {Q:Exit->Act->World->Prop} {w:World} (hE:Ent P z.fTS) (hT:TsC P z.fTS) (hVt:jp_ P z.tTags true 1) (hkt:zj_ P z.T z.kt z.tTags toff true 1) (hx:qy_ w bx 0 x) (hz:qy_ w bz 0 zc) (hxt:x[toff]?=some (.map m)) (hzt:zc[toff]?=some (.map none)) :
  ∀ (l:List ZF) (q i:Nat) (b:Bool) (a:Act),3 < q->(∀ j o,(zsGrp z l q i)[j]?=some o->ops[i + 1 + j]?=some o)->(∃ o,ops[i]?=some o/\o.dst=some q)->ZI N q bx bz b a->q + 7 * l.length + 7<=N ->
  (∀ f ∈ l,zj_ P z.T f.1 f.2.1 f.2.2.1 false 1/\zc[f.2.2.1]?=some (pv f.2.2.2.1 f.2.2.2.2)/\∃ y,x[f.2.2.1]?=some y/\pvShape f.2.2.2.1 y) ->
  (∀ a' w',Keeps (fun _=>False) w w'->a'.get 4=.bool (b && ((l.all fun f=>pvEq f.2.2.2.1 f.2.2.2.2 ((x[f.2.2.1]?).getD undef)) && m.isNone))->a'.defers=[]->Q .normal a' w')->wpList P ops Q (zsGrp z l q i) a w
 | [],q,i,b,a,hq,_,hi,hI,hN,_,h=>by
  simp only [List.length_nil,Nat.mul_zero,Nat.add_zero] at hN
  unfold zsGrp
  cases b with
  | false=>
   have hI1:=hI.put hq (d:=q + 1) (by omega) undef
   refine z1_ (hI.yd hi (by omega)) (by simp) ?_
   have hI2:=hI1.put hq (d:=q + 2) (by omega) undef
   refine z1_ (hI1.yd hi (by omega)) (by simp) ?_
   have hI3:=hI2.put hq (d:=q + 3) (by omega) undef
   refine z1_ (hI2.yd hi (by omega)) (by simp) ?_
   have hI4:=hI3.put hq (d:=q + 4) (by omega) undef
   refine z1_ (hI3.yd hi (by omega)) (by simp) ?_
   have hI5:=hI4.put hq (d:=q + 5) (by omega) undef
   refine z1_ (hI4.yd hi (by omega)) (by simp) ?_
   refine wl_pick (b:=false) hI5.gq (qg_ (wpList_nil (h _ w (Keeps.refl _ _) ?_ ?_)))
   ·have hs:=hI5.size
    rw [gpe (by simp only [qa_] at hs ⊢;omega),qb_,gpe (by simp only [qa_] at hs ⊢;omega)]
    simp
    rfl
   ·simp only [qf_];exact hI.defers
  | true=>
   refine wg_fld (hI.yd hi (by omega)) (by rw [qb_];exact hI.g2) hkt ?_
   have hI1:=hI.put hq (d:=q + 1) (by omega) (pt bx (0 + toff))
   have e1:(a.put (some (q + 1)) (pt bx (0 + toff))).get (q + 1)=pt bx (0 + toff):=gpe (by have:=hI.size;omega)
   generalize a.put (some (q + 1)) (pt bx (0 + toff))=a1 at hI1 e1 ⊢
   refine wg_loadN (cs:=[.map m]) (hI1.yd hi (by omega)) (by rw [qb_];exact e1) hVt (fun j c hj=>?_) ?_
   ·cases j with
    | zero=>simp only [List.getElem?_cons_zero,Option.some.injEq] at hj;subst hj;exact hx toff _ hxt
    | succ j=>simp at hj
   have hI2:=hI1.put hq (d:=q + 2) (by omega) (.agg [.map m].toArray)
   have e2:(a1.put (some (q + 2)) (.agg [.map m].toArray)).get (q + 2)=.agg [.map m].toArray:=gpe (by have:=hI1.size;omega)
   generalize a1.put (some (q + 2)) (.agg [.map m].toArray)=a2 at hI2 e2 ⊢
   refine wg_fld (hI2.yd hi (by omega)) (by rw [qb_];exact hI2.g3) hkt ?_
   have hI3:=hI2.put hq (d:=q + 3) (by omega) (pt bz (0 + toff))
   have e3:(a2.put (some (q + 3)) (pt bz (0 + toff))).get (q + 3)=pt bz (0 + toff):=gpe (by have:=hI2.size;omega)
   have e23:(a2.put (some (q + 3)) (pt bz (0 + toff))).get (q + 2)=.agg [.map m].toArray:=by rw [gpo (by omega)];exact e2
   generalize a2.put (some (q + 3)) (pt bz (0 + toff))=a3 at hI3 e3 e23 ⊢
   refine wg_loadN (cs:=[.map none]) (hI3.yd hi (by omega)) (by rw [qb_];exact e3) hVt (fun j c hj=>?_) ?_
   ·cases j with
    | zero=>simp only [List.getElem?_cons_zero,Option.some.injEq] at hj;subst hj;exact hz toff _ hzt
    | succ j=>simp at hj
   have hI4:=hI3.put hq (d:=q + 4) (by omega) (.agg [.map none].toArray)
   have e4:(a3.put (some (q + 4)) (.agg [.map none].toArray)).get (q + 4)=.agg [.map none].toArray:=gpe (by have:=hI3.size;omega)
   have e24:(a3.put (some (q + 4)) (.agg [.map none].toArray)).get (q + 2)=.agg [.map m].toArray:=by rw [gpo (by omega)];exact e23
   generalize a3.put (some (q + 4)) (.agg [.map none].toArray)=a4 at hI4 e4 e24 ⊢
   refine wg_callL (vs:=[.agg #[.map m],.agg #[.map none]]) (hI4.yd hi (by omega)) hE (by simp only [List.map_cons,List.map_nil,qb_,e4,e24]) (hT w m) fun e w' hR=>?_
   obtain ⟨hk,rfl⟩:=hR
   refine ⟨_,rfl,?_⟩
   have hI5:=hI4.put hq (d:=q + 5) (by omega) (.bool m.isNone)
   have e5:(a4.put (some (q + 5)) (.bool m.isNone)).get (q + 5)=.bool m.isNone:=gpe (by have:=hI4.size;omega)
   generalize a4.put (some (q + 5)) (.bool m.isNone)=a5 at hI5 e5 ⊢
   refine wl_pick (b:=true) hI5.gq (qg_ (wpList_nil (h _ w' hk ?_ ?_)))
   ·have hs:=hI5.size
    rw [gpe (by simp only [qa_];omega),qb_,gpe (by omega)]
    simp only [if_true,qb_,e5,List.all_nil,Bool.true_and]
   ·simp only [qf_];exact hI5.defers
 | f :: r,q,i,b,a,hq,hops,hi,hI,hN,hf,h=>by
  simp only [List.length_cons] at hN
  obtain ⟨hF,hzy,y,hxy,hsh⟩:=hf f (List.mem_cons_self ..)
  have hnext:∃ o,ops[i + 7]?=some o/\o.dst=some (q + 7):=by
   have:=hops 6 (mk (some (q + 7)) (.move (tm (q + 6)))) (by simp [zsGrp])
   exact ⟨_,by rw [show i + 7=i + 1 + 6 by omega];exact this,rfl⟩
  have hopsr:∀ j o,(zsGrp z r (q + 7) (i + 7))[j]?=some o->ops[i + 7 + 1 + j]?=some o:=fun j o hj=>by
   have:=hops (j + 7) o (by simpa [zsGrp] using hj)
   rw [show i + 7 + 1 + j=i + 1 + (j + 7) by omega]
   exact this
  have hall:((f :: r).all fun f=>pvEq f.2.2.2.1 f.2.2.2.2 ((x[f.2.2.1]?).getD undef))=(pvEq f.2.2.2.1 f.2.2.2.2 y && r.all fun f=>pvEq f.2.2.2.1 f.2.2.2.2 ((x[f.2.2.1]?).getD undef)):=by
   rw [List.all_cons,hxy];rfl
  rw [hall] at h
  unfold zsGrp
  cases b with
  | false=>
   have hI1:=hI.put hq (d:=q + 1) (by omega) undef
   refine z1_ (hI.yd hi (by omega)) (by simp) ?_
   have hI2:=hI1.put hq (d:=q + 2) (by omega) undef
   refine z1_ (hI1.yd hi (by omega)) (by simp) ?_
   have hI3:=hI2.put hq (d:=q + 3) (by omega) undef
   refine z1_ (hI2.yd hi (by omega)) (by simp) ?_
   have hI4:=hI3.put hq (d:=q + 4) (by omega) undef
   refine z1_ (hI3.yd hi (by omega)) (by simp) ?_
   have hI5:=hI4.put hq (d:=q + 5) (by omega) undef
   refine z1_ (hI4.yd hi (by omega)) (by simp) ?_
   generalize ((((a.put (some (q + 1)) undef).put (some (q + 2)) undef).put (some (q + 3)) undef).put (some (q + 4)) undef).put (some (q + 5)) undef=a5 at hI5 ⊢
   refine wl_pick (b:=false) hI5.gq ?_
   have hI6:=hI5.put hq (d:=q + 6) (by omega) (.bool false)
   have e6:(a5.put (some (q + 6)) (.bool false)).get (q + 6)=.bool false:=gpe (by have:=hI5.size;omega)
   show wpList P ops Q _ (a5.put (some (q + 6)) (.bool false)) w
   generalize a5.put (some (q + 6)) (.bool false)=a6 at hI6 e6 ⊢
   refine qd_ ?_
   rw [qb_,e6]
   have hs:=hI6.size
   exact zs_grp hE hT hVt hkt hx hz hxt hzt r (q + 7) (i + 7) false _ (by omega) hopsr hnext ⟨gpe (by omega),by rw [gpo (by omega)];exact hI6.g2,by rw [gpo (by omega)];exact hI6.g3,by simpa only [qa_] using hs,by simpa only [qf_] using hI6.defers⟩ (by omega) (fun g hg=>hf g (List.mem_cons_of_mem _ hg)) fun a' w' hk h4 hd=>h a' w' hk (by rw [h4];simp) hd
  | true=>
   refine wg_fld (hI.yd hi (by omega)) (by rw [qb_];exact hI.g2) hF ?_
   have hI1:=hI.put hq (d:=q + 1) (by omega) (pt bx (0 + f.2.2.1))
   have e1:(a.put (some (q + 1)) (pt bx (0 + f.2.2.1))).get (q + 1)=pt bx (0 + f.2.2.1):=gpe (by have:=hI.size;omega)
   generalize a.put (some (q + 1)) (pt bx (0 + f.2.2.1))=a1 at hI1 e1 ⊢
   refine wg_load1 (hI1.yd hi (by omega)) (by rw [qb_];exact e1) hF.var (hx _ _ hxy) ?_
   have hI2:=hI1.put hq (d:=q + 2) (by omega) y
   have e2:(a1.put (some (q + 2)) y).get (q + 2)=y:=gpe (by have:=hI1.size;omega)
   generalize a1.put (some (q + 2)) y=a2 at hI2 e2 ⊢
   refine wg_fld (hI2.yd hi (by omega)) (by rw [qb_];exact hI2.g3) hF ?_
   have hI3:=hI2.put hq (d:=q + 3) (by omega) (pt bz (0 + f.2.2.1))
   have e3:(a2.put (some (q + 3)) (pt bz (0 + f.2.2.1))).get (q + 3)=pt bz (0 + f.2.2.1):=gpe (by have:=hI2.size;omega)
   have e23:(a2.put (some (q + 3)) (pt bz (0 + f.2.2.1))).get (q + 2)=y:=by rw [gpo (by omega)];exact e2
   generalize a2.put (some (q + 3)) (pt bz (0 + f.2.2.1))=a3 at hI3 e3 e23 ⊢
   refine wg_load1 (hI3.yd hi (by omega)) (by rw [qb_];exact e3) hF.var (hz _ _ hzy) ?_
   have hI4:=hI3.put hq (d:=q + 4) (by omega) (pv f.2.2.2.1 f.2.2.2.2)
   have e4:(a3.put (some (q + 4)) (pv f.2.2.2.1 f.2.2.2.2)).get (q + 4)=pv f.2.2.2.1 f.2.2.2.2:=gpe (by have:=hI3.size;omega)
   have e24:(a3.put (some (q + 4)) (pv f.2.2.2.1 f.2.2.2.2)).get (q + 2)=y:=by rw [gpo (by omega)];exact e23
   generalize a3.put (some (q + 4)) (pv f.2.2.2.1 f.2.2.2.2)=a4 at hI4 e4 e24 ⊢
   obtain ⟨r1,r2⟩:=run_pveq (P:=P) (df:=f.2.2.2.2) hsh f.2.1 (tm (q + 2)) (tm (q + 4)) w
   refine xf_ (v:=.bool (pvEq f.2.2.2.1 f.2.2.2.2 y)) (hI4.yd hi (by omega)) (by
    have e2':a4.eval (tm (q + 2))=y:=e24
    have e4':a4.eval (tm (q + 4))=pv f.2.2.2.1 f.2.2.2.2:=e4
    simp only [execOp,mk,e2',e4',Sem.run_bind,r1,r2,Result.andThen_ok,Sem.run_pure]) ?_
   have hI5:=hI4.put hq (d:=q + 5) (by omega) (.bool (pvEq f.2.2.2.1 f.2.2.2.2 y))
   have e5:(a4.put (some (q + 5)) (.bool (pvEq f.2.2.2.1 f.2.2.2.2 y))).get (q + 5)=.bool (pvEq f.2.2.2.1 f.2.2.2.2 y):=gpe (by have:=hI4.size;omega)
   generalize a4.put (some (q + 5)) (.bool (pvEq f.2.2.2.1 f.2.2.2.2 y))=a5 at hI5 e5 ⊢
   refine wl_pick (b:=true) hI5.gq ?_
   simp only [if_true]
   rw [qb_,e5]
   have hI6:=hI5.put hq (d:=q + 6) (by omega) (.bool (pvEq f.2.2.2.1 f.2.2.2.2 y))
   have e6:(a5.put (some (q + 6)) (.bool (pvEq f.2.2.2.1 f.2.2.2.2 y))).get (q + 6)=.bool (pvEq f.2.2.2.1 f.2.2.2.2 y):=gpe (by have:=hI5.size;omega)
   generalize a5.put (some (q + 6)) (.bool (pvEq f.2.2.2.1 f.2.2.2.2 y))=a6 at hI6 e6 ⊢
   refine qd_ ?_
   rw [qb_,e6]
   have hs:=hI6.size
   exact zs_grp hE hT hVt hkt hx hz hxt hzt r (q + 7) (i + 7) (pvEq f.2.2.2.1 f.2.2.2.2 y) _ (by omega) hopsr hnext ⟨gpe (by omega),by rw [gpo (by omega)];exact hI6.g2,by rw [gpo (by omega)];exact hI6.g3,by simpa only [qa_] using hs,by simpa only [qf_] using hI6.defers⟩ (by omega) (fun g hg=>hf g (List.mem_cons_of_mem _ hg)) fun a' w' hk h4 hd=>h a' w' hk (by rw [h4,Bool.true_and,Bool.and_assoc]) hd
theorem zs_calls (hm:P.follows .mixedOrders=true) {fS N:Nat} {z:ZS} {f:ZF} {r:List ZF} {toff sz:Nat} (hfn:FnIs P fS N [4] (cZS z f r)) (hN:7 * r.length + 17<=N) (hE:Ent P z.fTS) (hT:TsC P z.fTS) (hVt:jp_ P z.tTags true 1) (hkt:zj_ P z.T z.kt z.tTags toff true 1) (hF:∀ g ∈ f :: r,zj_ P z.T g.1 g.2.1 g.2.2.1 false 1)
  (w:World) (x zc:List Value) (m:Option Nat) (_hx:x.length=sz) (_hz:zc.length=sz) (hxt:x[toff]?=some (.map m)) (hzt:zc[toff]?=some (.map none)) (hzd:∀ g ∈ f :: r,zc[g.2.2.1]?=some (pv g.2.2.2.1 g.2.2.2.2)) (hxd:∀ g ∈ f :: r,∃ y,x[g.2.2.1]?=some y/\pvShape g.2.2.2.1 y) :
  Calls P fS ([.agg x.toArray,.agg zc.toArray]:List Value).toArray w fun e w'=>Keeps (fun _=>False) w w'/\e=.returned (.bool (((f :: r).all fun g=>pvEq g.2.2.2.1 g.2.2.2.2 ((x[g.2.2.1]?).getD undef)) && m.isNone)):=by
 refine callsT hm hfn (by simp) _ (by simp;omega) fun a h=>?_
 unfold cZS
 refine nseq (nrg (st_box (cs:=x) h (.t rfl) (by omega) fun a h=>?_))
 have hb1:=qs_ w (.cells x.toArray z.T (0,0))
 have hk1:Keeps (fun _=>False) w (w.alloc (.cells x.toArray z.T (0,0))):=Keeps.alloc _ _ _
 have hz1:(w.alloc (.cells x.toArray z.T (0,0))).heap.size=w.heap.size + 1:=by simp
 generalize w.alloc (.cells x.toArray z.T (0,0))=w1 at hb1 hk1 hz1 ⊢
 refine st_box (cs:=zc) h (.t rfl) (by omega) fun a h=>?_
 have hb2:=qs_ w1 (.cells zc.toArray z.T (0,0))
 have hk2:Keeps (fun _=>False) w1 (w1.alloc (.cells zc.toArray z.T (0,0))):=Keeps.alloc _ _ _
 generalize w1.alloc (.cells zc.toArray z.T (0,0))=w2 at hb2 hk2 ⊢
 have hc1:qy_ w2 w.heap.size 0 x:=cellsAt_row (F:=z.T) (by rw [hk2.block _ (by omega) id];exact hb1)
 have hc2:qy_ w2 w1.heap.size 0 zc:=cellsAt_row (F:=z.T) hb2
 have hk02:=hk1.trans hk2
 refine st_assign h .c (by omega) fun a h=>wpList_nil ?_
 have h:St N a [(2,pt w.heap.size 0),(3,pt w1.heap.size 0)]:=h.pick ⟨rfl,rfl,trivial⟩
 obtain ⟨y,hxy,hsh⟩:=hxd f (List.mem_cons_self ..)
 have hzy:=hzd f (List.mem_cons_self ..)
 have hF0:=hF f (List.mem_cons_self ..)
 refine nseq (nrg ?_)
 show wpList P (zs0 z f++zsGrp z r 10 5).toArray _ (mk (some 5) (.fieldAddr z.T (tm 2) f.1) :: mk (some 6) (.load f.2.1 (tm 5)) :: mk (some 7) (.fieldAddr z.T (tm 3) f.1) :: mk (some 8) (.load f.2.1 (tm 7)) :: mk (some 9) (.binOp .eql f.2.1 (tm 6) (tm 8) 0) :: mk (some 10) (.move (tm 9)) :: zsGrp z r 10 5) a w2
 refine st_fld h (.t rfl) hF0 (by omega) fun a h=>st_load1 h (.t rfl) hF0.var (hc1 _ _ hxy) (by omega) fun a h=>st_fld h (.t rfl) hF0 (by omega) fun a h=>st_load1 h (.t rfl) hF0.var (hc2 _ _ hzy) (by omega) fun a h=>?_
 obtain ⟨r1,r2⟩:=run_pveq (P:=P) (df:=f.2.2.2.2) hsh f.2.1 (tm 6) (tm 8) w2
 refine qn_ (v:=.bool (pvEq f.2.2.2.1 f.2.2.2.2 y)) (w':=w2) (by
  have e2':a.eval (tm 6)=y:=h.get 6 _ rfl
  have e4':a.eval (tm 8)=pv f.2.2.2.1 f.2.2.2.2:=h.get 8 _ rfl
  simp only [execOp,mk,e2',e4',Sem.run_bind,r1,r2,Result.andThen_ok,Sem.run_pure]) ?_
 have h:=h.put (d:=9) (.bool (pvEq f.2.2.2.1 f.2.2.2.2 y)) (by omega)
 generalize a.put (some 9) (.bool (pvEq f.2.2.2.1 f.2.2.2.2 y))=a at h ⊢
 refine st_move h (.t rfl) (by omega) fun a h=>?_
 have h:St N a [(10,.bool (pvEq f.2.2.2.1 f.2.2.2.2 y)),(2,pt w.heap.size 0),(3,pt w1.heap.size 0)]:=h.pick ⟨rfl,rfl,rfl,trivial⟩
 refine zs_grp (N:=N) hE hT hVt hkt hc1 hc2 hxt hzt r 10 5 _ a (by omega) (fun j o hj=>?_) ⟨mk (some 10) (.move (tm 9)),rfl,rfl⟩ ⟨h.get 10 _ rfl,h.get 2 _ rfl,h.get 3 _ rfl,h.size,h.defers⟩ (by omega) (fun g hg=>⟨hF g (List.mem_cons_of_mem _ hg),hzd g (List.mem_cons_of_mem _ hg),hxd g (List.mem_cons_of_mem _ hg)⟩) fun a' w' hk h4 hd=>.ret ⟨hd,?_⟩
 ·show (zs0 z f++zsGrp z r 10 5).toArray[5 + 1 + j]?=some o
  rw [List.getElem?_toArray,List.getElem?_append_right (by simp [zs0])]
  simpa [zs0] using hj
 ·rw [zd_,h4,List.all_cons,hxy]
  exact ⟨hk02.trans hk,by rw [Bool.and_assoc];rfl⟩
def smB2 (zz:Array Value) (s:Sm):Bool:=zz.size == s.sz && eqAt zz s.toff (.map none) && s.ds.all fun q=>eqAt zz q.1 (pv q.2.1 q.2.2)
def zfB (P:Program) (F:Nat) (l:List ZF):Bool:=l.all fun g=>fldB P F g.1 g.2.1 g.2.2.1 false 1
theorem smC_of (hm:P.follows .mixedOrders=true) {s:Sm} {N:Nat} {z:ZS} {f:ZF} {r:List ZF} {zz:Array Value} (hfn:FnIs P s.fSame N [4] (cZS z f r)) (hN:7 * r.length + 17<=N) (hzT:z.T=s.F) (hE:Ent P z.fTS) (hT:TsC P z.fTS) (hVt:varB P z.tTags true 1=true) (hkt:fldB P s.F z.kt z.tTags s.toff true 1=true) (hF:zfB P s.F (f :: r)=true) (hds:s.ds=(f :: r).map (·.2.2))
  (hV:varB P s.F true s.sz=true) (hz0:∃ zv:Value,zv.cells.size=s.sz/\∀ w,(zeroValue s.F).run P w=.ok zv w) (hNE:Ent P s.fDef) (hNw:NwC P s.fDef zz) (hzz:smB2 zz s=true):SmC P s:=by
 simp only [smB2,Bool.and_eq_true,beq_iff_eq,List.all_eq_true] at hzz
 obtain ⟨⟨h1,h2⟩,h3⟩:=hzz
 simp only [zfB,List.all_eq_true] at hF
 refine ⟨varB_ok hV,hz0,hNE,fun w=>(hNw w).mono fun e w' hR=>?_,hfn.ent,fun w x zc m hx hz hxt hzt hzd hxd=>?_⟩
 ·obtain ⟨rfl,hk⟩:=hR
  refine ⟨hk,zz.toList,by simp,by simpa using h1,by simpa using eqAt_ok h2,fun q hq=>by simpa using eqAt_ok (h3 q hq)⟩
 ·have e:(s.ds.all fun q=>pvEq q.2.1 q.2.2 ((x[q.1]?).getD undef))=((f :: r).all fun g=>pvEq g.2.2.2.1 g.2.2.2.2 ((x[g.2.2.1]?).getD undef)):=by
   rw [hds,List.all_map];rfl
  rw [e]
  have hmem:∀ g ∈ f :: r,g.2.2 ∈ s.ds:=fun g hg=>by rw [hds];exact List.mem_map_of_mem hg
  exact zs_calls hm (toff:=s.toff) (sz:=s.sz) hfn hN hE hT (varB_ok hVt) (by rw [hzT];exact fldB_ok hkt) (fun g hg=>by rw [hzT];exact fldB_ok (hF g hg)) w x zc m hx hz hxt hzt (fun g hg=>hzd _ (hmem g hg)) fun g hg=>hxd _ (hmem g hg)
end
end Go.Proofs.YtlmanancakaapaaGreatDoor.Kx
