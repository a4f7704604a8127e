/-
  PLAIN LAWS AND CONTRACTS of messages, part 7 of 18: how readers and writers are printed, what they do, what the reference writes, and that what is written is read as the same. Nothing of a statement stands here.
-/
import Derived.Test.YtbgklecbmhaadaaK1
import Derived.Test.YtbgklecbmhaadaaK3
import Derived.Test.YtbgklecbmhaadaaK4
import Derived.Test.YtbgklecbmhaadaaK6
import Derived.KernelRfl
import Derived.Laws.IdiomStrings

namespace Go.Proofs.Ytbgklecbmhaadaa.Kx
open Go
section
variable {P:Program} {g:G} {K:Kn} {T:Nat}
theorem calls1 (hm:P.follows .mixedOrders=true) {f ntmps n0:Nat} {l:List GC} {y:Value} {w:World} {RR:Ending->World->Prop} (hfn:FnIs P f ntmps [2] (gS l n0).1) (hnt:1<=ntmps)
  (h:∀ a,a.get 0=y->a.tmps.size=ntmps->a.defers=[]->LW P l n0 (Rt (fun _ _=>False) (fun a' w'=>a'.defers=[]/\RR (.returned (a'.get 2)) w')) a w):Calls P f #[y] w RR:=by
 refine hfn.calls hm (by simp) ?_
 have:=h { tmps:=#[y]++Array.replicate (ntmps - (#[y]:Array Value).size) undef,defers:=[] } (by rw [get_args _ _ _ (by simp)];rfl) (size_args #[y] ntmps hnt) rfl
 exact rt_mono (zg_ this) (fun _ _ h=>h.elim) (fun a w h=>⟨h.1,h.2⟩)
end
section
variable {P:Program} {g:G} {w:World} {a:Act}
theorem wl_mapNil {ops:Array Oper} {Q:Exit->Act->World->Prop} {l:List Oper} {d:Option Nat} {tM kt et:Nat} {x:Operand} {m:Option Nat} (hM:P.underlying tM=some (.map kt et)) (hx:a.eval x=.map m) (h:wpList P ops Q l (a.put d (.bool m.isNone)) w) :
  wpList P ops Q (mk d (.binOp .eql tM x (.const (.map none)) 0) :: l) a w:=by
 refine qp_ ?_ h
 have hc:a.eval (.const (.map none))=.map none:=rfl
 have he:(eqGuard .eql tM x (.const (.map none)) (.map m) (.map none)).run P w=.ok () w:=by simp [eqGuard]
 have hr:(binOp .eql tM (.map m) (.map none)).run P w=.ok (.bool m.isNone) w:=by
  have h1:(Op.equal tM (.map m) (.map none)).run P w=.ok m.isNone w:=by
   cases m with
   | none=>exact (show (Op.equalIn (9999 + 1) tM (.map none) (.map none)).run P w=_ from by
     have:∀ d:Nat,(Op.equalIn (d + 1) tM (.map none) (.map none)).run P w=.ok true w:=fun d=>by simp [Op.equalIn,run_underlying hM]
     exact this 9999)
   | some r=>exact (show (Op.equalIn (9999 + 1) tM (.map (some r)) (.map none)).run P w=_ from by
     have:∀ d:Nat,(Op.equalIn (d + 1) tM (.map (some r)) (.map none)).run P w=.ok false w:=fun d=>by simp [Op.equalIn,run_underlying hM]
     exact this 9999)
  simp [binOp,h1]
 simp only [execOp,mk,hx,hc,Sem.run_bind,he,Result.andThen_ok,hr,Sem.run_pure]
end
end Go.Proofs.Ytbgklecbmhaadaa.Kx
