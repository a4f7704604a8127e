/-
  PLAIN LAWS AND CONTRACTS of messages, part 6 of 8: how readers and writers are printed, what they do, what the reference writes, and that what is written is read as the same. Nothing of a statement stands here.
-/
import Derived.Test.YtbacpeilgfmblaaDoorK1
import Derived.Test.YtbacpeilgfmblaaDoorK2
import Derived.Test.YtbacpeilgfmblaaDoorK3
import Derived.Test.YtbacpeilgfmblaaDoorK4
import Derived.KernelRfl
import Derived.Laws.IdiomStrings
import Derived.MapFrom
import Derived.ChangeKeysEq

namespace Go.Proofs.YtbacpeilgfmblaaDoor.Kx
open Go
set_option maxRecDepth 100000
structure SN where
 tInt:Nat
 tI64:Nat
 tU8:Nat
 tU64:Nat
 tU32:Nat
 tU16:Nat
 tB:Nat
 tSl:Nat
 tF:Nat
 tFs:Nat
 tT:Nat
 tTs:Nat
 tG:Nat
 tGs:Nat
 tMs:Nat
 fPart:Nat
 fHas:Nat
 fField:Nat
 fAt:Nat
 fKnown:Nat
 fUsual:Nat
 fUv:Nat
 fUnk:Nat
 fWhole:Nat
 fNull:Nat
 fThings:Nat
 fCnt:Nat
 fVal:Nat
 fFix:Nat
 fWid:Nat
 fWrite:Nat
 fSame:Nat
 fZ2:Nat
 fZ3:Nat
 fZ4:Nat
end Go.Proofs.YtbacpeilgfmblaaDoor.Kx

namespace Go.Proofs.YtbacpeilgfmblaaDoor.Kx
open Go
section
variable {P:Program} {g:GW} {av:PF->Bool} {fl nl:Bool} {te:Nat}
theorem callsA (hm:P.follows .mixedOrders=true) {f ntmps:Nat} {res:List Nat} {c:Code} {w:World} {RR:Ending->World->Prop} (hfn:FnIs P f ntmps res c) (hl:res.length<=2) (args:List Value) (hnt:args.length<=ntmps)
  (h:∀ a,(∀ i v,args[i]?=some v->a.get i=v)->a.tmps.size=ntmps->a.defers=[]->NWP P c (Rt (fun a' w'=>a'.defers=[]/\RR (.returned (retOf res a')) w') (fun a' w'=>a'.defers=[]/\RR (.returned (retOf res a')) w')) a w):Calls P f args.toArray w RR:=by
 refine hfn.calls hm hl ?_
 refine h _ (fun i v hi=>?_) (size_args args.toArray ntmps (by simpa using hnt)) rfl
 have hlt:i < args.length:=(List.getElem?_eq_some_iff.1 hi).1
 rw [get_args _ _ _ (by simpa using hlt)]
 have:=(List.getElem?_eq_some_iff.1 hi).2
 simpa using this
end
section
variable {P:Program}
theorem retOf_one (t:Nat) (a:Act):retOf [t] a=a.get t:=rfl
theorem wl_extract {ops:Array Oper} {Q:Exit->Act->World->Prop} {r:List Oper} {a:Act} {w:World} {d:Option Nat} {x:Operand} {i:Nat} {vs:Array Value} {v:Value} (hx:a.eval x=.tuple vs) (hv:vs[i]?=some v) (h:wpList P ops Q r (a.put d v) w):wpList P ops Q (mk d (.extract x i) :: r) a w:=by
 refine qn_ ?_ h
 simp [execOp,mk,hx,Instr.extract,hv]
end
structure St (n:Nat) (a:Act) (l:List (Nat × Value)):Prop where
 size:a.tmps.size=n
 defers:a.defers=[]
 get:∀ i v,l.lookup i=some v->a.get i=v
def Hd (l:List (Nat × Value)) (x:Operand) (v:Value):Prop:=∀ (n:Nat) (a:Act),St n a l->a.eval x=v
section
variable {P:Program} {ops:Array Oper} {Q:Exit->Act->World->Prop} {r:List Oper} {n:Nat} {a:Act} {w:World} {l:List (Nat × Value)}
theorem Hd.t {i:Nat} {v:Value} (h:l.lookup i=some v):Hd l (tm i) v:=fun _ _ hs=>hs.get i v h
theorem Hd.c {v:Value}:Hd l (.const v) v:=fun _ _ _=>rfl
theorem Hd.i {k:IntKind} {x:Int}:Hd l (ki k x) (.int k x):=fun _ _ _=>rfl
theorem St.put (h:St n a l) {d:Nat} (v:Value) (hd:d < n):St n (a.put (some d) v) ((d,v) :: l):=by
 refine ⟨by rw [put_size];exact h.size,by rw [put_defers];exact h.defers,fun i x hx=>?_⟩
 simp only [List.lookup_cons] at hx
 by_cases hi:i=d
 ·subst hi
  simp only [beq_self_eq_true] at hx
  rw [gpe (by rw [h.size];exact hd)]
  exact Option.some.inj hx
 ·have:(i == d)=false:=by simp [hi]
  rw [this] at hx
  rw [get_put_ne _ _ _ _ hi]
  exact h.get i x hx
theorem St.sub (h:St n a l) (m:List (Nat × Value)) (hm:∀ p ∈ m,l.lookup p.1=some p.2):St n a m:=by
 refine ⟨h.size,h.defers,fun i v hv=>h.get i v ?_⟩
 have:(i,v) ∈ m:=by
  clear hm
  induction m with
  | nil=>cases hv
  | cons p m ih=>
   obtain ⟨q,u⟩:=p
   simp only [List.lookup_cons] at hv
   by_cases hi:i=q
   ·subst hi
    simp only [beq_self_eq_true] at hv
    rw [<- Option.some.inj hv]
    exact List.mem_cons_self ..
   ·have:(i == q)=false:=by simp [hi]
    rw [this] at hv
    exact List.mem_cons_of_mem _ (ih hv)
 exact hm (i,v) this
def Sub (l:List (Nat × Value)):List (Nat × Value)->Prop
 | []=>True
 | p :: m=>l.lookup p.1=some p.2/\Sub l m
theorem St.pick (h:St n a l) {m:List (Nat × Value)} (hm:Sub l m):St n a m:=h.sub m (by
 induction m with
 | nil=>intro p hp;cases hp
 | cons q m ih=>
  intro p hp
  rcases List.mem_cons.1 hp with rfl | hp
  ·exact hm.1
  ·exact ih hm.2 p hp)
theorem qb_ (h:St n a l) {d:Nat} {x:Operand} {v:Value} (hx:Hd l x v) (hd:d < n) (k:∀ a',St n a' ((d,v) :: l)->wpList P ops Q r a' w):wpList P ops Q (mk (some d) (.move x) :: r) a w:=
 wl_move (k _ (by rw [hx n a h];exact h.put v hd))
theorem qa_ (h:St n a l) {d:Nat} {x:Operand} {v:Value} (hx:Hd l x v) (hd:d < n) (k:∀ a',St n a' ((d,v) :: l)->wpList P ops Q r a' w):wpList P ops Q (mk (some d) (.assign x) :: r) a w:=
 wl_assign (k _ (by rw [hx n a h];exact h.put v hd))
def cmpB:BinOp->Int->Int->Bool
 | .geq,p,q=>decide (q<=p)
 | .leq,p,q=>decide (p<=q)
 | .lss,p,q=>decide (p < q)
 | .gtr,p,q=>decide (q < p)
 | .eql,p,q=>decide (p=q)
 | _,p,q=>decide (p ≠ q)
def isCmp (o:BinOp):Bool:=match o with | .geq | .leq | .lss | .gtr | .eql | .neq=>true | _=>false
theorem cmpB_ok {o:BinOp} (h:isCmp o=true) (p q:Int):(o=.geq/\cmpB o p q=decide (q<=p)) \/ (o=.leq/\cmpB o p q=decide (p<=q)) \/ (o=.lss/\cmpB o p q=decide (p < q)) \/ (o=.gtr/\cmpB o p q=decide (q < p)) \/ (o=.eql/\cmpB o p q=decide (p=q)) \/ (o=.neq/\cmpB o p q=decide (p ≠ q)):=by
 cases o <;> simp [isCmp] at h <;> simp [cmpB]
theorem st_cmp (h:St n a l) {d:Nat} {x y:Operand} {o:BinOp} {T:Nat} {k:IntKind} {p q:Int} (ho:isCmp o=true) (hx:Hd l x (.int k p)) (hy:Hd l y (.int k q)) (hd:d < n) (c:∀ a',St n a' ((d,.bool (cmpB o p q)) :: l)->wpList P ops Q r a' w) :
  wpList P ops Q (mk (some d) (.binOp o T x y 0) :: r) a w:=
 wl_cmp (hx n a h) (hy n a h) (cmpB_ok ho p q) (c _ (h.put _ hd))
theorem st_bin (h:St n a l) {d:Nat} {x y:Operand} {o:BinOp} {T:Nat} {k:IntKind} {p q:Int} {v:Value} (hx:Hd l x (.int k p)) (hy:Hd l y (.int k q)) (ho:o ≠ .shl/\o ≠ .shr) (hrun:(binOp o T (.int k p) (.int k q)).run P w=.ok v w) (hd:d < n) (c:∀ a',St n a' ((d,v) :: l)->wpList P ops Q r a' w) :
  wpList P ops Q (mk (some d) (.binOp o T x y 0) :: r) a w:=
 wl_bin (hx n a h) (hy n a h) ho hrun (c _ (h.put _ hd))
theorem run_addi {k:IntKind} {A:Nat} {x y:Int} (w:World):(binOp .add A (.int k x) (.int k y)).run P w=.ok (.int k (k.wrap (x + y))) w:=by simp [binOp,Op.intArith]
theorem st_conv (h:St n a l) {d:Nat} {x:Operand} {S T:Nat} {k k':IntKind} {m:Int} (hx:Hd l x (.int k m)) (hS:P.underlying S=some (.int k)) (hT:P.underlying T=some (.int k')) (hd:d < n) (c:∀ a',St n a' ((d,.int k' (k'.wrap m)) :: l)->wpList P ops Q r a' w) :
  wpList P ops Q (mk (some d) (.convert S T x) :: r) a w:=wl_convInt (hx n a h) hS hT (c _ (h.put _ hd))
theorem st_not (h:St n a l) {d:Nat} {x:Operand} {T:Nat} {b:Bool} (hx:Hd l x (.bool b)) (hd:d < n) (c:∀ a',St n a' ((d,.bool !b) :: l)->wpList P ops Q r a' w) :
  wpList P ops Q (mk (some d) (.unOp .not T x) :: r) a w:=wl_not (hx n a h) (c _ (h.put _ hd))
theorem st_pick (h:St n a l) {d:Nat} {x y z:Operand} {b:Bool} {u v:Value} (hx:Hd l x (.bool b)) (hy:Hd l y u) (hz:Hd l z v) (hd:d < n) (c:∀ a',St n a' ((d,if b then u else v) :: l)->wpList P ops Q r a' w) :
  wpList P ops Q (mk (some d) (.pick x y z) :: r) a w:=wl_pick (hx n a h) (by rw [hy n a h,hz n a h];exact c _ (h.put _ hd))
theorem qf_ (h:St n a l) {d i:Nat} {x:Operand} {vs:Array Value} {v:Value} (hx:Hd l x (.tuple vs)) (hv:vs[i]?=some v) (hd:d < n) (c:∀ a',St n a' ((d,v) :: l)->wpList P ops Q r a' w) :
  wpList P ops Q (mk (some d) (.extract x i) :: r) a w:=wl_extract (hx n a h) hv (c _ (h.put _ hd))
theorem st_len (h:St n a l) {d:Nat} {x:Operand} {F E ty m c:Nat} {base:Option Addr} (hx:Hd l x (.slice base m c)) (hF:P.underlying F=some (.slice E)) (hd:d < n) (k:∀ a',St n a' ((d,.int .i64 (m:Int)) :: l)->wpList P ops Q r a' w) :
  wpList P ops Q (bi (some d) .len [x] [F] ty :: r) a w:=wl_len (hx n a h) hF (k _ (h.put _ hd))
theorem st_fld (h:St n a l) {d:Nat} {x:Operand} {T k F B O off sz:Nat} {agg:Bool} (hx:Hd l x (pt B O)) (hF:FldIs P T k F off agg sz) (hd:d < n) (c:∀ a',St n a' ((d,pt B (O + off)) :: l)->wpList P ops Q r a' w) :
  wpList P ops Q (mk (some d) (.fieldAddr T x k) :: r) a w:=wl_fld (hx n a h) hF (c _ (h.put _ hd))
theorem st_load1 (h:St n a l) {d:Nat} {x:Operand} {F B O sz:Nat} {v:Value} (hx:Hd l x (pt B O)) (hF:VarIs P F false sz) (hv:w.cell? ⟨B,O,none⟩=some v) (hd:d < n) (c:∀ a',St n a' ((d,v) :: l)->wpList P ops Q r a' w) :
  wpList P ops Q (mk (some d) (.load F x) :: r) a w:=wl_load1 (hx n a h) (hF.agg w) hv (c _ (h.put _ hd))
theorem st_loadN (h:St n a l) {d:Nat} {x:Operand} {F B O:Nat} {cs:List Value} (hx:Hd l x (pt B O)) (hF:VarIs P F true cs.length) (hv:qe_ w B O cs) (hd:d < n) (c:∀ a',St n a' ((d,.agg cs.toArray) :: l)->wpList P ops Q r a' w) :
  wpList P ops Q (mk (some d) (.load F x) :: r) a w:=wl_loadN (hx n a h) (hF.agg w) (hF.size w) (fun j v hj=>hv j v hj) (c _ (h.put _ hd))
theorem st_alloc (h:St n a l) {d:Nat} {T:Nat} {z:Value} (hz:(zeroValue T).run P w=.ok z w) (hd:d < n) (c:∀ a',St n a' ((d,pt w.heap.size 0) :: l)->wpList P ops Q r a' (w.alloc (.cells z.cells T (0,0)))) :
  wpList P ops Q (mk (some d) (.alloc T) :: r) a w:=wl_alloc hz (c _ (h.put _ hd))
theorem st_store (h:St n a l) {x y:Operand} {F g:Nat} {cur:Array Value} {t:Nat} {cs:List Value} {v:Value} (hx:Hd l x (pt g 0)) (hy:Hd l y v) (hv:v.cells.toList=cs) (hF:∀ w,(sizeOf F).run P w=.ok cs.length w) (hg:w.heap[g]?=some (.cells cur t (0,0))) (hs:cur.size=cs.length) (h1:∀ u ∈ cs,u.oneCell'=true)
  (c:wpList P ops Q r a (w.setRow g cs.toArray)):wpList P ops Q (mk none (.store F x y) :: r) a w:=by
 refine wl_store (vs:=cs) (hx n a h) (hy n a h) hv (hF w) hg (by omega) h1 ?_
 have:splice cur 0 cs=cs.toArray:=by
  apply Array.ext'
  simp [splice,List.drop_of_length_le (show cur.toList.length<=cs.length by simp [hs])]
 rw [this];exact c
theorem qo_ (h:St n a l) {d f:Nat} {args:List Operand} {vs:List Value} {R:Ending->World->Prop} (hf:Ent P f) (hargs:∀ (n:Nat) (a:Act),St n a l->args.map a.eval=vs) (hc:Calls P f vs.toArray w R) (hd:d < n)
  (c:∀ e w',R e w'->∃ v,e=.returned v/\∀ a',St n a' ((d,v) :: l)->wpList P ops Q r a' w'):wpList P ops Q (cl (some d) f args :: r) a w:=
 wl_call (vs:=vs.toArray) hf (by rw [hargs n a h]) hc fun e w' hR=>by
  obtain ⟨v,he,hk⟩:=c e w' hR
  exact ⟨v,he,hk _ (h.put _ hd)⟩
theorem st_index (h:St n a l) {d:Nat} {x y:Operand} {F E b o m c i sz:Nat} {k:IntKind} (hx:Hd l x (.slice (some ⟨b,o,none⟩) m c)) (hy:Hd l y (.int k (i:Nat))) (hi:i < m) (hF:P.underlying F=some (.slice E)) (hs:∀ w,(sizeOf E).run P w=.ok sz w) (hd:d < n)
  (q:∀ a',St n a' ((d,pt b (o + i * sz)) :: l)->wpList P ops Q r a' w):wpList P ops Q (mk (some d) (.indexAddr F x y) :: r) a w:=wl_indexAddr (hx n a h) (hy n a h) hi hF (hs w) (q _ (h.put _ hd))
theorem st_gd (h:St n a l) {d j jd:Nat} {op:Op} {b:Bool} {v:Value} {o:Oper} (ho:ops[j]?=some o) (hod:o.dst=some jd) (hj:l.lookup jd=some (.bool b)) (hjn:jd < n) (hrun:(execOp a.eval (mk (some d) op)).run P w=.ok (.value v) w) (hd:d < n)
  (c:∀ a',St n a' ((d,v) :: l)->wpList P ops Q r a' w):wpList P ops Q (gd d op j b :: r) a w:=
 wg_value (yielded_of ho hod (by rw [h.size];exact hjn) (h.get _ _ hj)) hrun (c _ (h.put _ hd))
theorem qj_ {x y:Code} {R:Exit->Act->World->Prop} (h:NWP P x (Exit.then (NWP P y R) R) a w):NWP P (.seq x y) R a w:=
 .seq h (fun _ _ h=>h) (fun e a w he hq=>by rwa [then_ne he] at hq)
theorem nrg {l':List Oper} {R:Exit->Act->World->Prop} (h:wpList P l'.toArray R l' a w):NWP P (rg l') R a w:=.reg h
theorem st_if (h:St n a l) {c:Nat} {x y:Code} {b:Bool} {R:Exit->Act->World->Prop} (hc:l.lookup c=some (.bool b)) (hT:b=true->NWP P x R a w) (hF:b=false->NWP P y R a w):NWP P (.cond (tm c) x y) R a w:=by
 cases b with
 | true=>exact .condT (h.get _ _ hc) (hT rfl)
 | false=>exact .condF (h.get _ _ hc) (hF rfl)
theorem st_test (h:St n a l) {c:Nat} {x y z:Code} {b:Bool} {R:Exit->Act->World->Prop} (hc:l.lookup c=some (.bool b)) (hT:b=true->NWP P x (Exit.then (NWP P z R) R) a w) (hF:b=false->NWP P y (Exit.then (NWP P z R) R) a w):NWP P (.seq (.cond (tm c) x y) z) R a w:=
 qj_ (st_if h hc hT hF)
theorem st_loop {i:Nat} {c:Code} {R:Exit->Act->World->Prop} (I:Nat->Act->World->Prop) (top:Nat) (h0:∃ m,m<=top/\I m a w) (hI:∀ m a w,m<=top->I m a w->NWP P c (Exit.then (fun a' w'=>∃ m',m'<=top/\m' < m/\I m' a' w') (Exit.inBlock i R)) a w):NWP P (.block i (.loop c)) R a w:=by
 classical
 obtain ⟨m0,hm0,h0⟩:=h0
 let J:Act->World->Prop:=fun a w=>∃ m,m<=top/\I m a w
 have key:∀ a w,J a w->∃ m,m<=top/\I m a w/\∀ m',m'<=top->I m' a w->m<=m':=fun a w hJ=>by
  obtain ⟨m,hm,hi⟩:=hJ
  induction m using Nat.strongRecOn with
  | _ m ih=>
   by_cases hex:∃ m',m' < m/\m'<=top/\I m' a w
   ·obtain ⟨m',h1,h2,h3⟩:=hex
    exact ih m' h1 h2 h3
   ·exact ⟨m,hm,hi,fun m' h1 h2=>by
     rcases Nat.lt_or_ge m' m with h | h
     ·exact absurd ⟨m',h,h1,h2⟩ hex
     ·exact h⟩
 let μ:Act->World->Nat:=fun a w=>if hJ:J a w then Classical.choose (key a w hJ) else 0
 refine .block (.loop J μ ⟨m0,hm0,h0⟩ fun a w hJ=>?_)
 have hs:=Classical.choose_spec (key a w hJ)
 have hμ:μ a w=Classical.choose (key a w hJ):=by simp only [μ,dif_pos hJ]
 refine .mono (hI _ a w hs.1 hs.2.1) fun e a' w' hq=>?_
 by_cases he:e=.normal
 ·subst he
  obtain ⟨m',h1,h2,h3⟩:=hq
  have hJ':J a' w':=⟨m',h1,h3⟩
  refine ⟨hJ',?_⟩
  have hs':=Classical.choose_spec (key a' w' hJ')
  have hμ':μ a' w'=Classical.choose (key a' w' hJ'):=by simp only [μ,dif_pos hJ']
  have:=hs'.2.2 m' h1 h3
  rw [hμ,hμ']
  omega
 ·rw [then_ne he] at hq ⊢
  exact hq
end
end Go.Proofs.YtbacpeilgfmblaaDoor.Kx

namespace Go.Proofs.YtbacpeilgfmblaaDoor.Kx
inductive Tr where
 | mk (n:Int) (s:Bs) (null:Bool) (l:List Tr) (u:List (UInt32 × Bs))
def Tr.num:Tr->Int | .mk n _ _ _ _=>n
def Tr.list:Tr->List Tr | .mk _ _ _ l _=>l
def Tr.zero:Tr:=.mk 0 [] false [] []
def Tr.at (t:Tr) (i:Nat):Tr:=t.list.getD i .zero
end Go.Proofs.YtbacpeilgfmblaaDoor.Kx
