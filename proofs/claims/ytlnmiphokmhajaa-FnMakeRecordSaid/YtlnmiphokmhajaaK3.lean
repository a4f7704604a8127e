/-
  PLAIN LAWS AND CONTRACTS of messages, part 3 of 12: how readers and writers are printed, what they do, what the reference writes, and that what is written is read as the same. Nothing of a statement stands here.
-/
import Derived.Test.YtlnmiphokmhajaaK1
import Derived.Test.YtlnmiphokmhajaaK2

namespace Go.Proofs.Ytlnmiphokmhajaa.Kx
open Go
def Blk (w:World) (B n te:Nat):Prop:=∃ cur,w.heap[B]?=some (.cells cur te (0,0))/\n<=cur.size
theorem Blk.evo {R B n te:Nat} {Z:Nat->Prop} {w w':World} (h:Evo R B Z w w') (hb:Blk w B n te):Blk w' B n te:=by
 obtain ⟨cur,h1,h2⟩:=hb
 obtain ⟨cs,h3,h4,_⟩:=h.blk cur te h1
 exact ⟨cs,h3,by omega⟩
section evo
variable {A:Nat->Prop} {S R B O n te:Nat} {Z:Nat->Prop} {w w':World}
end evo
section
variable (P:Program) (g:G) (av:PF->Bool) (fl:Bool) (D:Nat->Option (List (Nat × Value)))
end
section
variable {P:Program} {g:G} {av:PF->Bool} {fl:Bool} {D:Nat->Option (List (Nat × Value))}
end
section
variable {P:Program} {g:G} {av:PF->Bool} {fl:Bool} {D:Nat->Option (List (Nat × Value))}
theorem Evo.inner {R B R':Nat} {Z Z':Nat->Prop} {w w1 w2:World} (h:Evo R B Z w w1) (k:Evo R' B Z' w1 w2) (hR':w.heap.size<=R'):Evo R B (fun j=>Z j \/ Z' j) w w2:=by
 refine ⟨⟨k.keeps.os.trans h.keeps.os,k.keeps.tape.trans h.keeps.tape,k.keeps.output.trans h.keeps.output,Nat.le_trans h.keeps.size k.keeps.size,fun i hi hx=>?_⟩,fun cs te hc=>?_⟩
 ·rw [k.keeps.block i (Nat.lt_of_lt_of_le hi h.keeps.size) (fun hh=>by rcases hh with rfl | rfl;omega;exact hx (.inr rfl)),h.keeps.block i hi hx]
 ·obtain ⟨c1,h1,h2,h3⟩:=h.blk cs te hc
  obtain ⟨c2,k1,k2,k3⟩:=k.blk c1 te h1
  exact ⟨c2,k1,k2.trans h2,fun j hj=>(k3 j fun hh=>hj (.inr hh)).trans (h3 j fun hh=>hj (.inl hh))⟩
def inner (r:RS):RS:=⟨(rSpan (rUv r).1 (rUv r).2).1.octets,false,(rSpan (rUv r).1 (rUv r).2).1.isNul⟩
def behind (r:RS):RS:=(rSpan (rUv r).1 (rUv r).2).2
end
section
variable (P:Program) (g:G) (av:PF->Bool) (fl:Bool) (D:Nat->Option (List (Nat × Value)))
end
section
variable {P:Program} {g:G} {av:PF->Bool} {fl:Bool} {D:Nat->Option (List (Nat × Value))}
end
def TgNil (w:World) (B O:Nat) (toff:Option Nat):Prop:=match toff with | some k=>w.cell? ⟨B,O + k,none⟩=some (.map none) | none=>True
theorem TgNil.at {w:World} {B O:Nat} {toff:Option Nat} (h:TgNil w B O toff) (X:Nat->Prop):TgAt w X B O toff []:=by
 cases toff with
 | none=>rfl
 | some k=>exact ⟨_,h,.inl ⟨rfl,rfl⟩⟩
section
variable (P:Program) (g:G) (av:PF->Bool) (fl:Bool) (D:Nat->Option (List (Nat × Value)))
end
section
variable {P:Program} {g:G} {av:PF->Bool} {fl:Bool} {D:Nat->Option (List (Nat × Value))}
end
section
variable {P:Program} {g:G} {av:PF->Bool} {fl:Bool} {D:Nat->Option (List (Nat × Value))}
theorem qd_.inner {R B p:Nat} {w w1 w2:World} (h:qd_ (fun k=>k=R \/ k=B) w w1) (k:qd_ (fun k=>k=R \/ k=p) w1 w2) (hp:w.heap.size<=p):qd_ (fun k=>k=R \/ k=B) w w2:=
 ⟨k.os.trans h.os,k.tape.trans h.tape,k.output.trans h.output,Nat.le_trans h.size k.size,fun q hq hx=>by
  rw [k.block q (Nat.lt_of_lt_of_le hq h.size) (fun hh=>by rcases hh with hh | hh;exact hx (.inl hh);omega),h.block q hq hx]⟩
end
def FnIs (P:Program) (f ntmps:Nat) (res:List Nat) (d:Code):Prop:=
 ∃ fn c, P.funcs[f]? = some fn /\ fn.body = some c /\ qs_ c = d /\ fn.ntmps = ntmps /\ fn.results = (res.map ResultVar.tmp).toArray /\ (fn.name == "runtime.NumGoroutine") = false
theorem fnIs_of {P : Program} {f : Nat} {fn : Func} {ntmps : Nat} {res : List Nat} {d : Code} (hf : P.funcs[f]? = some fn) (hb : fn.body.map qs_ = some d) (hn : fn.ntmps = ntmps) (hr : fn.results = (res.map ResultVar.tmp).toArray) (hg : (fn.name == "runtime.NumGoroutine") = false) : FnIs P f ntmps res d := by
 cases h:fn.body with
 | none=>rw [h] at hb;cases hb
 | some c=>
  rw [h] at hb
  exact ⟨fn,c,hf,h,Option.some.inj hb,hn,hr,hg⟩
def retOf (res:List Nat) (a:Act):Value:=match res with | [t]=>a.get t | _=>.tuple (res.map a.get).toArray
theorem FnIs.ent {P:Program} {f n:Nat} {res:List Nat} {d:Code} (h:FnIs P f n res d):Ent P f:=by
 obtain ⟨fn,c,hf,hb,_,_,_,hg⟩:=h
 have hg' : ¬ fn.name = "runtime.NumGoroutine" := by simpa using hg
 intro args w
 simp [callFunc,hf,hg',hb]
theorem run_results {P:Program} {fn:Func} {res:List Nat} (hl:res.length<=2) (hr:fn.results=(res.map ResultVar.tmp).toArray) (a:Act) (w:World):(results fn a.tmps).run P w=.ok (retOf res a) w:=by
 unfold results
 rw [hr]
 match res,hl with
 | [],_=>simp [retOf]
 | [t],_=>simp [retOf,Act.get]
 | [t,u],_=>simp [retOf,Act.get]
theorem FnIs.calls {P:Program} (hm:P.follows .mixedOrders=true) {f n:Nat} {res:List Nat} {d:Code} (h:FnIs P f n res d) (hl:res.length<=2) {args:Array Value} {w:World} {R:Ending->World->Prop}
  (hw:NWP P d (Rt (fun a w=>a.defers=[]/\R (.returned (retOf res a)) w) (fun a w=>a.defers=[]/\R (.returned (retOf res a)) w)) { tmps:=args++Array.replicate (n - args.size) undef,defers:=[] } w):Calls P f args w R:=by
 obtain ⟨fn,c,hf,hb,rfl,rfl,hr,_⟩:=h
 refine calls_of_nwp hm hf hb rfl (.mono hw fun e a w hq=>?_)
 cases e <;> first | exact hq.elim | exact ⟨hq.1,_,run_results hl hr a w,hq.2⟩
section
variable {P:Program} {B O te k0:Nat}
end
theorem get_args (args:Array Value) (n i:Nat) (h:i < args.size):({ tmps:=args++Array.replicate (n - args.size) undef,defers:=[] }:Act).get i=args[i]:=by
 simp [Act.get,Array.getElem?_append_left h,h]
theorem size_args (args:Array Value) (n:Nat) (h:args.size<=n):(args++Array.replicate (n - args.size) undef).size=n:=by
 simp;omega
structure Kn where
 tRS:Nat
 tSl:Nat
 tB:Nat
 tInt:Nat
 tU8:Nat
 tI8:Nat
 tI16:Nat
 tU16:Nat
 tI32:Nat
 tU32:Nat
 tI64:Nat
 tU64:Nat
 tStr:Nat
 tUuid:Nat
 tBE:Nat
 tErr:Nat
 gBE:Nat
 gErr:Nat
 fU16:Nat
 fU32:Nat
 fU64:Nat
 fUv:Nat
 fR64:Nat
def kSrc (K:Kn) (s n:Nat):List Oper:=[mk (some n) (.move (tm s)),mk (some (n + 1)) (.nilCheck (tm n)),mk (some (n + 2)) (.fieldAddr K.tRS (tm (n + 1)) 0),mk (some (n + 3)) (.load K.tSl (tm (n + 2)))]
def kLenLt (K:Kn) (k:Nat) (A B:GC):GC:=gIf 5 6 (fun n=>kSrc K 0 n++[bi (some (n + 4)) .len [tm (n + 3)] [K.tSl] K.tInt,mk (some (n + 5)) (.binOp .lss K.tInt (tm (n + 4)) (ki .i64 k) 0)]) A B
def kFailAt (K:Kn) (s:Nat) (z:Value):GC:=gS [gOps 3 fun n=>[mk (some n) (.move (tm 0)),mk (some (n + 1)) (.nilCheck (tm n)),mk (some (n + 2)) (.fieldAddr K.tRS (tm (n + 1)) 1),mk none (.store K.tB (tm (n + 2)) (.const (.bool true)))],
 gOps 3 fun n=>[mk (some n) (.move (tm 0)),mk (some (n + 1)) (.nilCheck (tm n)),mk (some (n + 2)) (.fieldAddr K.tRS (tm (n + 1)) 0),mk none (.store K.tSl (tm (n + 2)) (.const (.slice none 0 0)))],gSet s z,gCode .ret]
def kFail (K:Kn) (z:Value):GC:=kFailAt K 2 z
def kAdv (K:Kn) (k:Nat):GC:=gOps 8 fun n=>mk (some n) (.move (tm 0)) :: (kSrc K 0 (n + 1)++[mk (some (n + 5)) (.slice K.tSl (tm (n + 4)) (some (ki .i64 k)) none none),mk (some (n + 6)) (.nilCheck (tm n)),mk (some (n + 7)) (.fieldAddr K.tRS (tm (n + 6)) 0),mk none (.store K.tSl (tm (n + 7)) (tm (n + 5)))])
section
variable {P:Program} {g:G} {K:Kn} {T S R:Nat} {r:RS} {x n:Nat} {KK:Act->World->Prop} {Q:Exit->Act->World->Prop} {a:Act} {w:World}
end
end Go.Proofs.Ytlnmiphokmhajaa.Kx
