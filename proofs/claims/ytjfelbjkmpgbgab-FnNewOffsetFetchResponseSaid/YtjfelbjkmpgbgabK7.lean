/-
  PLAIN LAWS AND CONTRACTS of messages, part 7 of 15: how readers and writers are printed, what they do, what the reference writes, and that what is written is read as the same. Nothing of a statement stands here.
-/
import Derived.Test.YtjfelbjkmpgbgabK1
import Derived.Test.YtjfelbjkmpgbgabK3
import Derived.Test.YtjfelbjkmpgbgabK4
import Derived.Test.YtjfelbjkmpgbgabK6
import Derived.KernelRfl
import Derived.Laws.IdiomStrings

namespace Go.Proofs.Ytjfelbjkmpgbgab.Kx
open Go
section
variable {P:Program} {g:G} {K:Kn} {T:Nat}
theorem calls1 (hm:P.follows .mixedOrders=true) {f ntmps n0:Nat} {l:List GC} {y:Value} {w:World} {RR:Ending->World->Prop} (hfn:FnIs P f ntmps [2] (gS l n0).1) (hnt:1<=ntmps)
  (h:∀ a,a.get 0=y->a.tmps.size=ntmps->a.defers=[]->LW P l n0 (Rt (fun _ _=>False) (fun a' w'=>a'.defers=[]/\RR (.returned (a'.get 2)) w')) a w):Calls P f #[y] w RR:=by
 refine hfn.calls hm (by simp) ?_
 have:=h { tmps:=#[y]++Array.replicate (ntmps - (#[y]:Array Value).size) undef,defers:=[] } (by rw [get_args _ _ _ (by simp)];rfl) (size_args #[y] ntmps hnt) rfl
 exact rt_mono (nwp_gS this) (fun _ _ h=>h.elim) (fun a w h=>⟨h.1,h.2⟩)
end
end Go.Proofs.Ytjfelbjkmpgbgab.Kx
