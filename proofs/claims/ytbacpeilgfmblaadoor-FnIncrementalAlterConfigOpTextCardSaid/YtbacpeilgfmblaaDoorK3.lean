/-
  PLAIN LAWS AND CONTRACTS of messages, part 3 of 8: how readers and writers are printed, what they do, what the reference writes, and that what is written is read as the same. Nothing of a statement stands here.
-/
import Derived.Test.YtbacpeilgfmblaaDoorK1
import Derived.Test.YtbacpeilgfmblaaDoorK2

namespace Go.Proofs.YtbacpeilgfmblaaDoor.Kx
open Go
def FnIs (P:Program) (f ntmps:Nat) (res:List Nat) (d:Code):Prop:=
 ∃ fn c, P.funcs[f]? = some fn /\ fn.body = some c /\ qi_ c = d /\ fn.ntmps = ntmps /\ fn.results = (res.map ResultVar.tmp).toArray /\ (fn.name == "runtime.NumGoroutine") = false
theorem fnIs_of {P : Program} {f : Nat} {fn : Func} {ntmps : Nat} {res : List Nat} {d : Code} (hf : P.funcs[f]? = some fn) (hb : fn.body.map qi_ = some d) (hn : fn.ntmps = ntmps) (hr : fn.results = (res.map ResultVar.tmp).toArray) (hg : (fn.name == "runtime.NumGoroutine") = false) : FnIs P f ntmps res d := by
 cases h:fn.body with
 | none=>rw [h] at hb;cases hb
 | some c=>
  rw [h] at hb
  exact ⟨fn,c,hf,h,Option.some.inj hb,hn,hr,hg⟩
def retOf (res:List Nat) (a:Act):Value:=match res with | [t]=>a.get t | _=>.tuple (res.map a.get).toArray
theorem FnIs.ent {P:Program} {f n:Nat} {res:List Nat} {d:Code} (h:FnIs P f n res d):Ent P f:=by
 obtain ⟨fn,c,hf,hb,_,_,_,hg⟩:=h
 have hg' : ¬ fn.name = "runtime.NumGoroutine" := by simpa using hg
 intro args w
 simp [callFunc,hf,hg',hb]
theorem run_results {P:Program} {fn:Func} {res:List Nat} (hl:res.length<=2) (hr:fn.results=(res.map ResultVar.tmp).toArray) (a:Act) (w:World):(results fn a.tmps).run P w=.ok (retOf res a) w:=by
 unfold results
 rw [hr]
 match res,hl with
 | [],_=>simp [retOf]
 | [t],_=>simp [retOf,Act.get]
 | [t,u],_=>simp [retOf,Act.get]
theorem FnIs.calls {P:Program} (hm:P.follows .mixedOrders=true) {f n:Nat} {res:List Nat} {d:Code} (h:FnIs P f n res d) (hl:res.length<=2) {args:Array Value} {w:World} {R:Ending->World->Prop}
  (hw:NWP P d (Rt (fun a w=>a.defers=[]/\R (.returned (retOf res a)) w) (fun a w=>a.defers=[]/\R (.returned (retOf res a)) w)) { tmps:=args++Array.replicate (n - args.size) undef,defers:=[] } w):Calls P f args w R:=by
 obtain ⟨fn,c,hf,hb,rfl,rfl,hr,_⟩:=h
 refine calls_of_nwp hm hf hb rfl (.mono hw fun e a w hq=>?_)
 cases e <;> first | exact hq.elim | exact ⟨hq.1,_,run_results hl hr a w,hq.2⟩
section
variable {P:Program} {B O te k0:Nat}
end
theorem get_args (args:Array Value) (n i:Nat) (h:i < args.size):({ tmps:=args++Array.replicate (n - args.size) undef,defers:=[] }:Act).get i=args[i]:=by
 simp [Act.get,Array.getElem?_append_left h,h]
theorem size_args (args:Array Value) (n:Nat) (h:args.size<=n):(args++Array.replicate (n - args.size) undef).size=n:=by
 simp;omega
structure Kn where
 tRS:Nat
 tSl:Nat
 tB:Nat
 tInt:Nat
 tU8:Nat
 tI8:Nat
 tI16:Nat
 tU16:Nat
 tI32:Nat
 tU32:Nat
 tI64:Nat
 tU64:Nat
 tStr:Nat
 tUuid:Nat
 tBE:Nat
 tErr:Nat
 gBE:Nat
 gErr:Nat
 fU16:Nat
 fU32:Nat
 fU64:Nat
 fUv:Nat
 fR64:Nat
section
variable {P:Program} {g:G} {K:Kn} {T S R:Nat} {r:RS} {x n:Nat} {KK:Act->World->Prop} {Q:Exit->Act->World->Prop} {a:Act} {w:World}
end
section
variable {P:Program} {g:G} {K:Kn} {T S R:Nat} {r:RS} {x n:Nat} {KK:Act->World->Prop} {Q:Exit->Act->World->Prop} {a:Act} {w:World}
theorem ev_move {I:World->Prop} {d:Nat} {y:Operand} {l:List Oper} {K':Act->Prop} (h:evF P I l (a.put (some d) (a.eval y)) K'):evF P I (mk (some d) (.move y) :: l) a K':=⟨_,fun _ _=>rfl,h⟩
end
end Go.Proofs.YtbacpeilgfmblaaDoor.Kx
