/-
  PLAIN LAWS AND CONTRACTS of messages, part 6 of 18: how readers and writers are printed, what they do, what the reference writes, and that what is written is read as the same. Nothing of a statement stands here.
-/
import Derived.Test.YtbgklecbmhaadaaK1
import Derived.Test.YtbgklecbmhaadaaK3
import Derived.KernelRfl
import Derived.Laws.IdiomStrings

namespace Go.Proofs.Ytbgklecbmhaadaa.Kx
open Go
structure Kn where
 tRS:Nat
 tSl:Nat
 tB:Nat
 tInt:Nat
 tU8:Nat
 tI8:Nat
 tI16:Nat
 tU16:Nat
 tI32:Nat
 tU32:Nat
 tI64:Nat
 tU64:Nat
 tStr:Nat
 tUuid:Nat
 tBE:Nat
 tErr:Nat
 gBE:Nat
 gErr:Nat
 fU16:Nat
 fU32:Nat
 fU64:Nat
 fUv:Nat
 fR64:Nat
section
variable {P:Program} {g:G} {K:Kn} {T S R:Nat} {r:RS} {x n:Nat} {KK:Act->World->Prop} {Q:Exit->Act->World->Prop} {a:Act} {w:World}
end
section
variable {P:Program} {g:G} {K:Kn} {T S R:Nat} {r:RS} {x n:Nat} {KK:Act->World->Prop} {Q:Exit->Act->World->Prop} {a:Act} {w:World}
theorem ev_move {I:World->Prop} {d:Nat} {y:Operand} {l:List Oper} {K':Act->Prop} (h:evF P I l (a.put (some d) (a.eval y)) K'):evF P I (mk (some d) (.move y) :: l) a K':=⟨_,fun _ _=>rfl,h⟩
theorem ev_nilCheck {I:World->Prop} {d:Nat} {y:Operand} {p:Addr} {l:List Oper} {K':Act->Prop} (hy:a.eval y=.pointer (some p)) (h:evF P I l (a.put (some d) (.pointer (some p))) K'):evF P I (mk (some d) (.nilCheck y) :: l) a K':=
 ⟨_,fun w _=>by simp [execOp,mk,hy],h⟩
theorem ev_fld {I:World->Prop} {d:Nat} {y:Operand} {F TT k B O off sz:Nat} {agg:Bool} {l:List Oper} {K':Act->Prop} (hy:a.eval y=.pointer (some ⟨B,O,none⟩)) (hF:jr_ P TT k F off agg sz)
  (h:evF P I l (a.put (some d) (.pointer (some ⟨B,O + off,none⟩))) K'):evF P I (mk (some d) (.fieldAddr TT y k) :: l) a K':=by
 obtain ⟨fs,f,h1,h2,h3,h4⟩:=hF.fld
 obtain ⟨q,rfl⟩:∃ q,sz=q + 1:=⟨sz - 1,by have:=hF.pos;omega⟩
 have hsz:∀ w,(sizeOf f.type).run P w=.ok (q + 1) w:=fun w=>by rw [h4];exact hF.var.size w
 exact ⟨_,fun w _=>by simp [execOp,mk,hy,Instr.fieldAt,run_underlying h1,h2,h3,fieldPlace,hsz,Instr.sureAddr,Addr.add_lit],h⟩
theorem ev_load1 {I:World->Prop} {d:Nat} {y:Operand} {F:Nat} {p:Addr} {v:Value} {l:List Oper} {K':Act->Prop} (hy:a.eval y=.pointer (some p)) (hF:∀ w,(isAgg F).run P w=.ok false w) (hv:∀ w,I w->w.cell? p=some v)
  (h:evF P I l (a.put (some d) v) K'):evF P I (mk (some d) (.load F y) :: l) a K':=
 ⟨_,fun w hI=>by simp [execOp,mk,hy,Instr.loadAt,Instr.sureAddr,loadVar,hF,load,hv w hI,Sem.run],h⟩
theorem ev_index {I:World->Prop} {d:Nat} {y z:Operand} {F E' b o m c i sz:Nat} {k:IntKind} {l:List Oper} {K':Act->Prop} (hy:a.eval y=.slice (some ⟨b,o,none⟩) m c) (hz:a.eval z=.int k i) (hi:i < m) (hF:P.underlying F=some (.slice E'))
  (hs:∀ w,(sizeOf E').run P w=.ok sz w) (h:evF P I l (a.put (some d) (.pointer (some ⟨b,o + i * sz,none⟩))) K'):evF P I (mk (some d) (.indexAddr F y z) :: l) a K':=
 ⟨_,fun w _=>by simp [execOp,mk,hy,hz,Instr.indexAt,asIntOf,run_underlying hF,hs,hi,Addr.add_lit],h⟩
theorem ev_bin {I:World->Prop} {d:Nat} {op:BinOp} {A:Nat} {y z:Operand} {k k2:IntKind} {m m2:Int} {v:Value} {l:List Oper} {K':Act->Prop} (hy:a.eval y=.int k m) (hz:a.eval z=.int k2 m2)
  (hop:∀ w,(binOp op A (.int k m) (.int k2 m2)).run P w=.ok v w) (h:evF P I l (a.put (some d) v) K'):evF P I (mk (some d) (.binOp op A y z 0) :: l) a K':=by
 refine ⟨v,fun w _=>?_,h⟩
 have he:(eqGuard op A y z (.int k m) (.int k2 m2)).run P w=.ok () w:=by
  unfold eqGuard
  cases op <;> simp
 simp only [execOp,mk,hy,hz,Sem.run_bind,he,Result.andThen_ok,hop,Sem.run_pure]
def uk (k:IntKind):Prop:=k=.u16 \/ k=.u32 \/ k=.u64
theorem uk_wrap {k:IntKind} (hk:uk k) {m:Nat} (h:m < 2 ^ k.bits):k.wrap (m:Int)=m:=by
 rcases hk with rfl | rfl | rfl <;> simp [IntKind.wrap,IntKind.bits,IntKind.signed] at h ⊢ <;> omega
end
def FnIsC (P:Program) (f ntmps s t:Nat) (d:Code):Prop:=
 ∃ fn c, P.funcs[f]? = some fn /\ fn.body = some c /\ nCode c = d /\ fn.ntmps = ntmps /\ fn.results = #[ResultVar.cell s t] /\ (fn.name == "runtime.NumGoroutine") = false
theorem FnIsC.ent {P:Program} {f n s t:Nat} {d:Code} (h:FnIsC P f n s t d):Ent P f:=by
 obtain ⟨fn,c,hf,hb,_,_,_,hg⟩:=h
 have hg' : ¬ fn.name = "runtime.NumGoroutine" := by simpa using hg
 intro args w
 simp [callFunc,hf,hg',hb]
theorem FnIsC.calls {P:Program} (hm:P.follows .mixedOrders=true) {f n s t:Nat} {d:Code} (h:FnIsC P f n s t d) {args:Array Value} {w:World} {R:Ending->World->Prop}
  (hw:NWP P d (Rt (fun _ _=>False) (fun a w=>a.defers=[]/\∃ p v,a.get s=.pointer (some p)/\(loadVar t p).run P w=.ok v w/\R (.returned v) w)) { tmps:=args++Array.replicate (n - args.size) undef,defers:=[] } w):Calls P f args w R:=by
 obtain ⟨fn,c,hf,hb,rfl,rfl,hr,_⟩:=h
 refine calls_of_nwp hm hf hb rfl (.mono hw fun e a w hq=>?_)
 cases e <;> first | exact hq.elim | skip
 obtain ⟨hd,p,v,hp,hl,hR⟩:=hq
 refine ⟨hd,v,?_,hR⟩
 have hg:a.tmps[s]?.getD undef=.pointer (some p):=by
  have h2:a.tmps.getD s undef=.pointer (some p):=hp
  rwa [Array.getD_eq_getD_getElem?] at h2
 unfold results
 rw [hr]
 simp [hg,asAddr,hl]
section
variable {P:Program} {g:G} {K:Kn}
theorem run_copy_row {w:World} {dT sT ty elem:TypeId} {b o dLen dCap sLen sCap:Nat} {p:Addr} {cs:List Value} {cur:Array Value} {te:TypeId}
  (hu:P.underlying dT=some (.slice elem)) (hs:∀ w,(sizeOf elem).run P w=.ok 1 w) (hn:Nat.min sLen dLen=cs.length)
  (hsrc:∀ j v,cs[j]?=some v->w.cell? (p.add j)=some v) (hb:w.heap[b]?=some (.cells cur te (0,0))) (ho:o + cs.length<=cur.size) (h1:∀ v ∈ cs,v.oneCell'=true) :
  (Builtin.copy_ #[dT,sT] ty #[.slice (some ⟨b,o,none⟩) dLen dCap,.slice (some p) sLen sCap]).run P w=.ok (goInt cs.length) (w.setRow b (q4_ cur o cs)):=by
 have hl:=run_loadCells_list (P:=P) w p cs hsrc
 have hst:=run_storeCells_at P b o te cs 0 cur w hb (by simpa using ho) h1
 simp only [Nat.add_zero] at hst
 simp [Builtin.copy_,run_underlying hu,Builtin.lenOf,Builtin.firstCells,hs,hn,hl,hst,q4_]
theorem run_copy_nil {w:World} {dT sT ty elem:TypeId} {d a:Option Addr} {dLen dCap sLen sCap:Nat} (hu:P.underlying dT=some (.slice elem)) (hs:∀ w,(sizeOf elem).run P w=.ok 1 w) (hn:Nat.min sLen dLen=0) :
  (Builtin.copy_ #[dT,sT] ty #[.slice d dLen dCap,.slice a sLen sCap]).run P w=.ok (goInt 0) w:=by
 have hl:∀ (x:Addr),(loadCells x 0).run P w=.ok #[] w:=fun x=>by simpa using run_loadCells_list (P:=P) w x [] (by simp)
 cases d <;> cases a <;> simp [Builtin.copy_,run_underlying hu,Builtin.lenOf,Builtin.firstCells,hs,hn,storeCells,hl]
theorem oct_one {l:List UInt8}:∀ u ∈ l.map (fun b=>Value.int .u8 (b.toNat:Int)),u.oneCell'=true:=by
 intro u hu
 obtain ⟨b,_,rfl⟩:=List.mem_map.1 hu
 rfl
end
end Go.Proofs.Ytbgklecbmhaadaa.Kx
