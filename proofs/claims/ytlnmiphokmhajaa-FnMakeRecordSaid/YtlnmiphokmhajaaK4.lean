/-
  PLAIN LAWS AND CONTRACTS of messages, part 4 of 12: how readers and writers are printed, what they do, what the reference writes, and that what is written is read as the same. Nothing of a statement stands here.
-/
import Derived.Test.YtlnmiphokmhajaaK1
import Derived.Test.YtlnmiphokmhajaaK2
import Derived.Test.YtlnmiphokmhajaaK3
import Derived.Laws.IdiomStrings
import Derived.KernelRfl

namespace Go.Proofs.Ytlnmiphokmhajaa.Kx
open Go
section
variable {P:Program} {g:G} {K:Kn} {T S R:Nat} {r:RS} {x n:Nat} {KK:Act->World->Prop} {Q:Exit->Act->World->Prop} {a:Act} {w:World}
theorem ev_move {I:World->Prop} {d:Nat} {y:Operand} {l:List Oper} {K':Act->Prop} (h:evF P I l (a.put (some d) (a.eval y)) K'):evF P I (mk (some d) (.move y) :: l) a K':=⟨_,fun _ _=>rfl,h⟩
theorem ev_nilCheck {I:World->Prop} {d:Nat} {y:Operand} {p:Addr} {l:List Oper} {K':Act->Prop} (hy:a.eval y=.pointer (some p)) (h:evF P I l (a.put (some d) (.pointer (some p))) K'):evF P I (mk (some d) (.nilCheck y) :: l) a K':=
 ⟨_,fun w _=>by simp [execOp,mk,hy],h⟩
theorem ev_fld {I:World->Prop} {d:Nat} {y:Operand} {F TT k B O off sz:Nat} {agg:Bool} {l:List Oper} {K':Act->Prop} (hy:a.eval y=.pointer (some ⟨B,O,none⟩)) (hF:FldIs P TT k F off agg sz)
  (h:evF P I l (a.put (some d) (.pointer (some ⟨B,O + off,none⟩))) K'):evF P I (mk (some d) (.fieldAddr TT y k) :: l) a K':=by
 obtain ⟨fs,f,h1,h2,h3,h4⟩:=hF.fld
 obtain ⟨q,rfl⟩:∃ q,sz=q + 1:=⟨sz - 1,by have:=hF.pos;omega⟩
 have hsz:∀ w,(sizeOf f.type).run P w=.ok (q + 1) w:=fun w=>by rw [h4];exact hF.var.size w
 exact ⟨_,fun w _=>by simp [execOp,mk,hy,Instr.fieldAt,run_underlying h1,h2,h3,fieldPlace,hsz,Instr.sureAddr,Addr.add_lit],h⟩
theorem ev_load1 {I:World->Prop} {d:Nat} {y:Operand} {F:Nat} {p:Addr} {v:Value} {l:List Oper} {K':Act->Prop} (hy:a.eval y=.pointer (some p)) (hF:∀ w,(isAgg F).run P w=.ok false w) (hv:∀ w,I w->w.cell? p=some v)
  (h:evF P I l (a.put (some d) v) K'):evF P I (mk (some d) (.load F y) :: l) a K':=
 ⟨_,fun w hI=>by simp [execOp,mk,hy,Instr.loadAt,Instr.sureAddr,loadVar,hF,load,hv w hI,Sem.run],h⟩
theorem ev_index {I:World->Prop} {d:Nat} {y z:Operand} {F E' b o m c i sz:Nat} {k:IntKind} {l:List Oper} {K':Act->Prop} (hy:a.eval y=.slice (some ⟨b,o,none⟩) m c) (hz:a.eval z=.int k i) (hi:i < m) (hF:P.underlying F=some (.slice E'))
  (hs:∀ w,(sizeOf E').run P w=.ok sz w) (h:evF P I l (a.put (some d) (.pointer (some ⟨b,o + i * sz,none⟩))) K'):evF P I (mk (some d) (.indexAddr F y z) :: l) a K':=
 ⟨_,fun w _=>by simp [execOp,mk,hy,hz,Instr.indexAt,asIntOf,run_underlying hF,hs,hi,Addr.add_lit],h⟩
theorem ev_conv {I:World->Prop} {d:Nat} {y:Operand} {A B:Nat} {k k':IntKind} {m:Int} {l:List Oper} {K':Act->Prop} (hy:a.eval y=.int k m) (hA:P.underlying A=some (.int k)) (hB:P.underlying B=some (.int k'))
  (h:evF P I l (a.put (some d) (.int k' (k'.wrap m))) K'):evF P I (mk (some d) (.convert A B y) :: l) a K':=
 ⟨_,fun w _=>by simp [execOp,mk,hy,convert,run_underlying hA,run_underlying hB,Conv.intToInt],h⟩
theorem ev_bin {I:World->Prop} {d:Nat} {op:BinOp} {A:Nat} {y z:Operand} {k k2:IntKind} {m m2:Int} {v:Value} {l:List Oper} {K':Act->Prop} (hy:a.eval y=.int k m) (hz:a.eval z=.int k2 m2)
  (hop:∀ w,(binOp op A (.int k m) (.int k2 m2)).run P w=.ok v w) (h:evF P I l (a.put (some d) v) K'):evF P I (mk (some d) (.binOp op A y z 0) :: l) a K':=by
 refine ⟨v,fun w _=>?_,h⟩
 have he:(eqGuard op A y z (.int k m) (.int k2 m2)).run P w=.ok () w:=by
  unfold eqGuard
  cases op <;> simp
 simp only [execOp,mk,hy,hz,Sem.run_bind,he,Result.andThen_ok,hop,Sem.run_pure]
def uk (k:IntKind):Prop:=k=.u16 \/ k=.u32 \/ k=.u64
theorem uk_wrap {k:IntKind} (hk:uk k) {m:Nat} (h:m < 2 ^ k.bits):k.wrap (m:Int)=m:=by
 rcases hk with rfl | rfl | rfl <;> simp [IntKind.wrap,IntKind.bits,IntKind.signed] at h ⊢ <;> omega
end
def gSkel (K:Kn) (z:Value) (k:Nat) (Rd F:GC):Code:=(gS [gSet 2 z,kLenLt K k (kFail K z) gSkip,Rd,kAdv K k,F,gCode .ret] 4).1
def kByte (K:Kn):GC:=gOps 6 fun n=>kSrc K 0 n++[mk (some (n + 4)) (.indexAddr K.tSl (tm (n + 3)) (ki .i64 0)),mk (some (n + 5)) (.load K.tU8 (tm (n + 4))),mk (some 3) (.assign (tm (n + 5)))]
def kBigOps (K:Kn) (f:Nat) (conv:Option (Nat × Nat)) (n:Nat):List Oper:=
 mk (some n) (.load K.tBE (.global K.gBE)) :: (kSrc K 0 (n + 1)++(cl (some (n + 5)) f [tm n,tm (n + 4)] ::
  (match conv with | some (A,B)=>[mk (some (n + 6)) (.convert A B (tm (n + 5))),mk (some 3) (.assign (tm (n + 6)))] | none=>[mk (some 3) (.assign (tm (n + 5)))])))
def kBig (K:Kn) (f:Nat) (conv:Option (Nat × Nat)):GC:=fun n=>(.region 1 (kBigOps K f conv n).toArray true,n + (match conv with | some _=>7 | none=>6))
def kConv (A B:Nat):GC:=gOps 2 fun n=>[mk (some n) (.move (tm 3)),mk (some (n + 1)) (.convert A B (tm n)),mk (some 2) (.assign (tm (n + 1)))]
section
variable {P:Program} {g:G} {K:Kn} {T S R:Nat} {r:RS} {x n:Nat} {KK:Act->World->Prop} {Q:Exit->Act->World->Prop} {a:Act} {w:World}
end
section
variable {P:Program} {g:G} {K:Kn} {T:Nat}
def cI8 (K:Kn):Code:=gSkel K (.int .i8 0) 1 (kByte K) (kConv K.tU8 K.tI8)
def cI32 (K:Kn):Code:=gSkel K (.int .i32 0) 4 (kBig K K.fU32 (some (K.tU32,K.tI32))) (gMove 3 2)
def cI64 (K:Kn):Code:=(gS [gSet 2 (.int .i64 0),gOps 3 fun n=>[mk (some n) (.move (tm 0)),cl (some (n + 1)) K.fR64 [tm n],mk (some (n + 2)) (.convert K.tU64 K.tI64 (tm (n + 1))),mk (some 2) (.assign (tm (n + 2)))],gCode .ret] 3).1
end
def kNum (f:Nat):GC:=gOps 2 fun n=>[mk (some n) (.move (tm 0)),cl (some (n + 1)) f [tm n],mk (some 3) (.assign (tm (n + 1)))]
def oSpanC (g:G) (A B n:Nat):List Oper:=[mk (some n) (.move (tm 0)),mk (some (n + 1)) (.move (tm 3)),mk (some (n + 2)) (.convert A B (tm (n + 1))),cl (some (n + 3)) g.span [tm n,tm (n + 2)]]
def cStr (g:G) (K:Kn):Code:=(gS [gSet 2 (.string ⟨#[]⟩),kNum (g.rd .i16),gOps 5 fun n=>oSpanC g K.tI16 K.tInt n++[mk (some (n + 4)) (.convert K.tSl K.tStr (tm (n + 3))),mk (some 2) (.assign (tm (n + 4)))],gCode .ret] 4).1
section
variable {P:Program} {g:G} {K:Kn} {T S R:Nat} {r:RS} {n:Nat} {KK:Act->World->Prop} {Q:Exit->Act->World->Prop} {a:Act} {w:World}
end
section
variable {P:Program} {g:G} {K:Kn} {T:Nat}
theorem calls1 (hm:P.follows .mixedOrders=true) {f ntmps n0:Nat} {l:List GC} {y:Value} {w:World} {RR:Ending->World->Prop} (hfn:FnIs P f ntmps [2] (gS l n0).1) (hnt:1<=ntmps)
  (h:∀ a,a.get 0=y->a.tmps.size=ntmps->a.defers=[]->LW P l n0 (Rt (fun _ _=>False) (fun a' w'=>a'.defers=[]/\RR (.returned (a'.get 2)) w')) a w):Calls P f #[y] w RR:=by
 refine hfn.calls hm (by simp) ?_
 have:=h { tmps:=#[y]++Array.replicate (ntmps - (#[y]:Array Value).size) undef,defers:=[] } (by rw [get_args _ _ _ (by simp)];rfl) (size_args #[y] ntmps hnt) rfl
 exact rt_mono (nwp_gS this) (fun _ _ h=>h.elim) (fun a w h=>⟨h.1,h.2⟩)
end
end Go.Proofs.Ytlnmiphokmhajaa.Kx
