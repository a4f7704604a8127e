/-
  PLAIN LAWS AND CONTRACTS of messages, part 1 of 8: how readers and writers are printed, what they do, what the reference writes, and that what is written is read as the same. Nothing of a statement stands here.
-/
import Derived.StillTail
import Derived.ScopeJumps
import Derived.Deep.Quiet
import Derived.Laws.AppendOwn
import Derived.WalkKit

namespace Go.Proofs.YtbacpeilgfmblaaDoor.Kx
abbrev Bs:=List UInt8
inductive Prim where
 | bool | i8 | i16 | u16 | i32 | i64 | uuid
 deriving DecidableEq
mutual
inductive Ty where
 | prim (p:Prim)
 | str (nul:Option Nat)
 | bytes (nul:Option Nat)
 | list (nul:Option Nat) (esz:Nat) (e:Ty)
 | struct (nul:Option Nat) (toff:Option Nat) (fs:Fds)
inductive Fds where
 | nil
 | cons (lo:Nat) (hi:Option Nat) (tag:Option Nat) (df:Int) (off:Nat) (ty:Ty) (r:Fds)
end
inductive V where
 | nul
 | n (x:Int)
 | s (x:Bs)
 | l (xs:List V)
 | st (vs:List V) (tg:List (Nat × Bs))
def V.octets:V->Bs | .s x=>x | _=>[]
structure RS where
 src:Bs
 bad:Bool
 nl:Bool
def RS.fail:RS:=⟨[],true,true⟩
def rBool (r:RS):Int × RS:=
 match r.src with
 | []=>(0,.fail)
 | b :: t=>((if b.toNat=0 then 0 else 1),⟨t,r.bad,r.nl⟩)
def uvRead:Bs->Nat × Int
 | []=>(0,0)
 | a :: l=>
  if a.toNat < 128 then (a.toNat,1) else
  match l with
  | []=>(0,0)
  | b :: l=>
   if b.toNat < 128 then (a.toNat % 128 + b.toNat * 128,2) else
   match l with
   | []=>(0,0)
   | c :: l=>
    if c.toNat < 128 then (a.toNat % 128 + b.toNat % 128 * 128 + c.toNat * 16384,3) else
    match l with
    | []=>(0,0)
    | d :: l=>
     if d.toNat < 128 then (a.toNat % 128 + b.toNat % 128 * 128 + c.toNat % 128 * 16384 + d.toNat * 2097152,4) else
     match l with
     | []=>(0,0)
     | e :: _=>if e.toNat<=15 then (a.toNat % 128 + b.toNat % 128 * 128 + c.toNat % 128 * 16384 + d.toNat % 128 * 2097152 + e.toNat * 268435456,5) else (0,-5)
def rUv (r:RS):Nat × RS:=
 if (uvRead r.src).2<=0 then (0,.fail) else ((uvRead r.src).1,⟨r.src.drop (uvRead r.src).2.toNat,r.bad,r.nl⟩)
def rSpan (k:Int) (r:RS):V × RS:=
 if (r.src.length:Int) < k \/ k < 0 then (.nul,.fail)
 else (if r.nl then .nul else .s (r.src.take k.toNat),⟨r.src.drop k.toNat,r.bad,r.nl⟩)
inductive PF where
 | bool | i8 | i16 | u16 | i32 | i64 | uuid | str | cstr | nstr | cnstr | bytes | cbytes | nbytes | cnbytes
 deriving DecidableEq
def setTag (k:Nat) (v:Bs):List (Nat × Bs)->List (Nat × Bs)
 | []=>[(k,v)]
 | (j,u) :: r=>if k < j then (k,v) :: (j,u) :: r else if k=j then (k,v) :: r else (j,u) :: setTag k v r
def rTags:Nat->List (Nat × Bs)->RS->List (Nat × Bs) × RS
 | 0,t,r=>(t,r)
 | n + 1,t,r=>
  let k:=rUv r
  let z:=rUv k.2
  let s:=rSpan z.1 z.2
  rTags n (setTag k.1 s.1.octets t) s.2
def rdsOf (o:Oper):List Nat:=o.op.operands.toList.filterMap fun | .tmp t=>some t | _=>none
def acts (o:Oper):Bool:=
 match o.op with
 | .move _ | .pick .. | .build .. | .load .. | .nilCheck _ | .binOp .. | .unOp .. | .convert .. | .slice .. | .fieldAddr .. | .field .. | .indexAddr .. | .index .. | .extract ..=>false
 | .call c=>match c.callee with | .builtin .len=>false | _=>true
 | _=>true
def qp_ (ops:List Oper):List Bool:=
 ops.foldl (fun (acc:List Bool) o=>acc++[acts o || (acc.zip ops).any fun p=>p.1 && (match p.2.dst with | some d=>(rdsOf o).contains d | none=>false)]) []
def ql_ (o:Oper) (j:Nat):Bool:=o.after.any fun e=>Region.binds .any e && e.on == j
def isSel (o:Oper):Bool:=match o.op with | .select ..=>true | _=>false
def drawB (ops:List Oper) (loud:List Bool):Bool:=
 (ops.all fun o=>o.guard.isNone && !isSel o) && loud.length == ops.length &&
 ((List.range ops.length).all fun i=>
  match ops[i]?,loud[i]? with
  | some o,some l=>
   (l || (match o.dst with | some d=>!(rdsOf o).contains d | none=>false)) && (o.after.all fun e=>!Region.binds .any e || decide (e.on < i)) &&
   ((List.range ops.length).all fun j=>
    match ops[j]?,loud[j]? with
    | some p,some m=>
     decide (i=j) ||
     ((match p.dst with
      | some d=>
       (!(rdsOf o).contains d || (!m && decide (j < i) && ql_ o j) || (m && (l || ql_ p i))) &&
       (l || o.dst != some d)
      | none=>true) &&
     (!(l && m && decide (j < i)) || ql_ o j || (List.range ops.length).any fun k=>decide (j < k) && decide (k < i) && (loud[k]?).getD false))
    | _,_=>false)
  | _,_=>false)
section
variable {P:Program}
def evF (P:Program) (I:World->Prop):List Oper->Act->(Act->Prop)->Prop
 | [],a,K=>K a
 | o :: r,a,K=>∃ v,(∀ w,I w->(execOp a.eval o).run P w=.ok (.value v) w)/\evF P I r (a.put o.dst v) K
def wpLd (P:Program) (I:World->Prop) (Q:Exit->Act->World->Prop):List Oper->Act->World->Prop
 | [],a,w=>I w/\Q .normal a w
 | o :: r,a,w=>I w/\o.wp P a w (wpLd P I Q r) (fun _ _ _=>False)
theorem wpLd_I {I:World->Prop} {Q:Exit->Act->World->Prop} {l:List Oper} {a:Act} {w:World} (h:wpLd P I Q l a w):I w:=by
 cases l <;> exact h.1
theorem execOp_reads (o:Oper) (hs:isSel o=false) (a b:Act) (h:∀ t ∈ rdsOf o,a.tmps.getD t undef=b.tmps.getD t undef):execOp a.eval o=execOp b.eval o:=by
 refine execOp_congr o (fun cs bl hc=>by simp [isSel,hc] at hs) fun x hx=>?_
 cases x with
 | tmp t=>exact h t (List.mem_filterMap.2 ⟨.tmp t,by simpa using hx,rfl⟩)
 | _=>rfl
theorem qd_ (a:Act) (d:Option Nat) (v:Value) (t:Nat) (h:d ≠ some t):(a.put d v).tmps.getD t undef=a.tmps.getD t undef:=by
 cases d with
 | none=>rfl
 | some d=>
  have:d ≠ t:=fun e=>h (by rw [e])
  simp [Act.put,Array.getElem?_setIfInBounds_ne this]
theorem put_agree (a b:Act) (hsz:a.tmps.size=b.tmps.size) (d:Option Nat) (v:Value) (t:Nat) (h:d=some t \/ a.tmps.getD t undef=b.tmps.getD t undef) :
  (a.put d v).tmps.getD t undef=(b.put d v).tmps.getD t undef:=by
 by_cases hd:d=some t
 ·subst hd
  simp [Act.put,Array.getElem?_setIfInBounds,hsz]
 ·rw [qd_ a d v t hd,qd_ b d v t hd]
  exact h.resolve_left hd
theorem wp_congr_reads {o:Oper} (hs:isSel o=false) {a b:Act} {w:World} {K K':Act->World->Prop} {Q':Exit->Act->World->Prop} (h:∀ t ∈ rdsOf o,a.tmps.getD t undef=b.tmps.getD t undef)
  (hd:a.defers=b.defers) (hK:∀ ds v w',K (({ a with defers:=ds }:Act).put o.dst v) w'->K' (({ b with defers:=ds }:Act).put o.dst v) w')
  (hh:o.wp P a w K (fun _ _ _=>False)):o.wp P b w K' Q':=by
 unfold Oper.wp at *
 rw [<- execOp_reads o hs a b h]
 generalize (execOp a.eval o).run P w=r at *
 have hK0:∀ v w',K (a.put o.dst v) w'->K' (b.put o.dst v) w':=fun v w' hk=>by
  have:=hK a.defers v w' hk
  rw [hd] at this
  exact this
 cases r with
 | ok n w'=>
  cases n with
  | value v=>exact hK0 v w' hh
  | skip=>exact hK0 undef w' hh
  | enter f args=>
   refine Calls.mono hh fun e w'' he=>?_
   cases e with
   | returned v=>exact hK0 v w'' he
   | panicked c=>exact he.elim
   | outgrown=>obtain ⟨_,_,hf⟩:=he;exact hf.elim
  | row row args=>exact Rows.mono hh fun v w'' he=>hK0 v w'' he
  | defer d=>
   have:=hK (d :: a.defers) undef w' hh
   rw [hd] at this
   exact this
  | _=>exact hh.elim
 | halt x w'=>
  cases x <;> exact hh.elim
structure DInv (ops:List Oper) (loud:List Bool) (a0:Act) (af:Act) (n:Nat) (listed:Array Bool) (a:Act):Prop where
 size:listed.size=ops.length
 asz:a.tmps.size=af.tmps.size
 defers:a.defers=af.defers
 chain:∀ i:Nat,loud[i]?=some true->(listed.getD i false=true ↔ i < n)
 closed:∀ (i:Nat) o,ops[i]?=some o->listed.getD i false=true->∀ j,ql_ o j=true->listed.getD j false=true
 agree:∀ t,(∀ (i:Nat) o,ops[i]?=some o->loud[i]?=some false->listed.getD i false=false->o.dst ≠ some t)->a.tmps.getD t undef=af.tmps.getD t undef
 orig:∀ t,(∀ (i:Nat) o,ops[i]?=some o->listed.getD i false=true->o.dst ≠ some t)->a.tmps.getD t undef=a0.tmps.getD t undef
structure DrawO1 (ops:List Oper) (loud:List Bool):Prop where
 len:loud.length=ops.length
 guard:∀ (i:Nat) (o:Oper),ops[i]?=some o->o.guard=none/\isSel o=false
 hasDst:∀ (i:Nat) (o:Oper),ops[i]?=some o->loud[i]?=some false->∃ d,o.dst=some d/\d ∉ rdsOf o
 lower:∀ (i:Nat) (o:Oper),ops[i]?=some o->∀ j,ql_ o j=true->j < i
 reads:∀ (i:Nat) (o:Oper) (j:Nat) (p:Oper) (d:Nat),ops[i]?=some o->ops[j]?=some p->i ≠ j->p.dst=some d->d ∈ rdsOf o ->
  (loud[j]?=some false/\j < i/\ql_ o j=true) \/ (loud[j]?=some true/\(loud[i]?=some true \/ ql_ p i=true))
 apart:∀ (i:Nat) (o:Oper) (j:Nat) (p:Oper) (d:Nat),ops[i]?=some o->ops[j]?=some p->i ≠ j->p.dst=some d->loud[i]?=some false->o.dst ≠ some d
structure DrawOk (ops:List Oper) (loud:List Bool):Prop extends DrawO1 ops loud where
 chain:∀ (i:Nat) (o:Oper) (j:Nat),ops[i]?=some o->loud[i]?=some true->loud[j]?=some true->j < i->ql_ o j=true \/ ∃ k:Nat,j < k/\k < i/\loud[k]?=some true
theorem drawB_ok {ops:List Oper} {loud:List Bool} (h:drawB ops loud=true):DrawOk ops loud:=by
 simp only [drawB,Bool.and_eq_true,List.all_eq_true,List.mem_range,beq_iff_eq] at h
 obtain ⟨⟨hg,hl⟩,hh⟩:=h
 have key:∀ (i:Nat) (o:Oper),ops[i]?=some o->∃ l,loud[i]?=some l:=by
  intro i o ho
  have:i < loud.length:=by rw [hl];exact (List.getElem?_eq_some_iff.1 ho).1
  exact ⟨_,List.getElem?_eq_getElem this⟩
 have row:∀ (i:Nat) (o:Oper) (l:Bool),ops[i]?=some o->loud[i]?=some l->_:=fun i o l ho hlo=>by
  have h1:=hh i (List.getElem?_eq_some_iff.1 ho).1
  rw [ho,hlo] at h1
  simp only [Bool.and_eq_true,List.all_eq_true,List.mem_range] at h1
  exact h1
 have cell:∀ (i:Nat) (o:Oper) (l:Bool) (j:Nat) (p:Oper) (m:Bool),ops[i]?=some o->loud[i]?=some l->ops[j]?=some p->loud[j]?=some m->_:=fun i o l j p m ho hlo hp hm=>by
  have h1:=(row i o l ho hlo).2 j (List.getElem?_eq_some_iff.1 hp).1
  rw [hp,hm] at h1
  exact h1
 refine ⟨⟨hl,fun i o ho=>?_,fun i o ho hlo=>?_,fun i o ho j hw=>?_,fun i o j p d ho hp hij hd hr=>?_,fun i o j p d ho hp hij hd hlo=>?_⟩,fun i o j ho hlo hlj hji=>?_⟩
 ·have:=hg o (List.mem_of_getElem? ho)
  simpa [Option.isNone_iff_eq_none] using this
 ·have:=(row i o false ho hlo).1.1
  cases hd:o.dst with
  | none=>rw [hd] at this;simp at this
  | some d=>rw [hd] at this;exact ⟨d,rfl,by simpa using this⟩
 ·obtain ⟨l,hlo⟩:=key i o ho
  have h1:=(row i o l ho hlo).1.2
  unfold ql_ at hw
  obtain ⟨e,he,hb⟩:=Array.any_eq_true'.1 hw
  simp only [Bool.and_eq_true,beq_iff_eq] at hb
  have h2:=Array.all_eq_true'.1 h1 e he
  simp only [hb.1,Bool.not_true,Bool.false_or,decide_eq_true_eq] at h2
  omega
 ·obtain ⟨l,hlo⟩:=key i o ho
  obtain ⟨m,hlm⟩:=key j p hp
  have h1:=cell i o l j p m ho hlo hp hlm
  simp only [hd,hij,decide_false,Bool.false_or,Bool.and_eq_true,Bool.or_eq_true,List.contains_eq_mem,hr,decide_true,Bool.not_true,Bool.not_eq_true',decide_eq_true_eq] at h1
  rcases h1.1.1 with ⟨⟨h2,h3⟩,h4⟩ | ⟨h2,h3⟩
  ·subst h2;exact .inl ⟨hlm,h3,h4⟩
  ·subst h2
   refine .inr ⟨hlm,?_⟩
   rcases h3 with h3 | h3
   ·subst h3;exact .inl hlo
   ·exact .inr h3
 ·obtain ⟨m,hlm⟩:=key j p hp
  have h1:=cell i o false j p m ho hlo hp hlm
  simp only [hd,hij,decide_false,Bool.false_or,Bool.and_eq_true] at h1
  simpa using h1.1.2
 ·have hjl:j < ops.length:=by rw [<- hl];exact (List.getElem?_eq_some_iff.1 hlj).1
  have hp:ops[j]?=some ops[j]:=List.getElem?_eq_getElem hjl
  have h1:=cell i o true j _ true ho hlo hp hlj
  have hij:i ≠ j:=by omega
  simp only [hij,decide_false,Bool.false_or,Bool.and_eq_true,hji,decide_true,Bool.not_true,Bool.or_eq_true,Bool.true_and] at h1
  rcases h1.2 with h2 | h2
  ·exact .inl h2
  ·obtain ⟨k,hk,hk2⟩:=List.any_eq_true.1 h2
   simp only [Bool.and_eq_true,decide_eq_true_eq] at hk2
   refine .inr ⟨k,hk2.1.1,hk2.1.2,?_⟩
   cases hc:loud[k]? with
   | none=>rw [hc] at hk2;simp at hk2
   | some x=>rw [hc] at hk2;simp at hk2;rw [hk2.2]
def FreeOk (P:Program) (I:World->Prop) (ops:List Oper) (loud:List Bool) (a0 af:Act):Prop:=
 ∀ (i:Nat) (o:Oper),ops[i]?=some o->loud[i]?=some false->∃ v,(∀ b:Act,b.tmps.size=af.tmps.size->∀ d,o.dst=some d->(b.put o.dst v).tmps.getD d undef=af.tmps.getD d undef) /\
  ∀ w,I w->∀ b:Act,(∀ t ∈ rdsOf o,(∃ (j:Nat) (p:Oper),ops[j]?=some p/\loud[j]?=some false/\p.dst=some t)->b.tmps.getD t undef=af.tmps.getD t undef) ->
   (∀ t ∈ rdsOf o,(¬ ∃ (j:Nat) (p:Oper),ops[j]?=some p/\loud[j]?=some false/\p.dst=some t)->b.tmps.getD t undef=a0.tmps.getD t undef)->(execOp b.eval o).run P w=.ok (.value v) w
def qm_:List Oper->List Bool->List Oper
 | o :: r,l :: m=>if l then qm_ r m else o :: qm_ r m
 | _,_=>[]
def qc_:List Oper->List Bool->List Oper
 | o :: r,l :: m=>if l then o :: qc_ r m else qc_ r m
 | _,_=>[]
theorem evF_ok {I:World->Prop} {ops:List Oper} {loud:List Bool} (hd:DrawO1 ops loud) (a0:Act) (K:Act->Prop):∀ (r:List Oper) (m:List Bool) (k:Nat) (a:Act),r.length=m.length ->
  (∀ i,r[i]?=ops[k + i]?)->(∀ i,m[i]?=loud[k + i]?)->(∀ t,(∀ (j:Nat) (p:Oper),j < k->ops[j]?=some p->loud[j]?=some false->p.dst ≠ some t)->a.tmps.getD t undef=a0.tmps.getD t undef) ->
  evF P I (qm_ r m) a K ->
  ∃ af,K af/\af.tmps.size=a.tmps.size/\af.defers=a.defers/\(∀ t,(∀ (j:Nat) (p:Oper),k<=j->ops[j]?=some p->loud[j]?=some false->p.dst ≠ some t)->af.tmps.getD t undef=a.tmps.getD t undef) /\
   (∀ (i:Nat) (o:Oper),k<=i->ops[i]?=some o->loud[i]?=some false->∃ v,(∀ b:Act,b.tmps.size=af.tmps.size->∀ d,o.dst=some d->(b.put o.dst v).tmps.getD d undef=af.tmps.getD d undef) /\
    ∀ w,I w->∀ b:Act,(∀ t ∈ rdsOf o,(∃ (j:Nat) (p:Oper),ops[j]?=some p/\loud[j]?=some false/\p.dst=some t)->b.tmps.getD t undef=af.tmps.getD t undef) ->
     (∀ t ∈ rdsOf o,(¬ ∃ (j:Nat) (p:Oper),ops[j]?=some p/\loud[j]?=some false/\p.dst=some t)->b.tmps.getD t undef=a0.tmps.getD t undef)->(execOp b.eval o).run P w=.ok (.value v) w)
 | [],m,k,a,hl,hr,_,_,h=>by
  obtain rfl:m=[]:=by cases m;rfl;simp at hl
  refine ⟨a,h,rfl,rfl,fun _ _=>rfl,fun i o hi ho=>?_⟩
  have:=hr (i - k)
  rw [show k + (i - k)=i by omega,ho] at this
  simp at this
 | o :: r,l :: m,k,a,hl,hr,hm,ha,h=>by
  have ho:ops[k]?=some o:=by have:=hr 0;simpa using this.symm
  have hlk:loud[k]?=some l:=by have:=hm 0;simpa using this.symm
  have hr':∀ i,r[i]?=ops[k + 1 + i]?:=fun i=>by have:=hr (i + 1);simp only [List.getElem?_cons_succ] at this;rw [this];congr 1;omega
  have hm':∀ i,m[i]?=loud[k + 1 + i]?:=fun i=>by have:=hm (i + 1);simp only [List.getElem?_cons_succ] at this;rw [this];congr 1;omega
  cases l with
  | true=>
   simp only [qm_,if_true] at h
   obtain ⟨af,h1,h2,h3,h4,h5⟩:=evF_ok hd a0 K r m (k + 1) a (by simpa using hl) hr' hm' (fun t ht=>ha t fun j p hj hp hlj=>ht j p (by omega) hp hlj) h
   refine ⟨af,h1,h2,h3,fun t ht=>h4 t fun j p hj=>ht j p (by omega),fun i o' hi ho' hli=>h5 i o' ?_ ho' hli⟩
   rcases Nat.lt_or_ge k i with hk | hk
   ·exact hk
   ·obtain rfl:i=k:=by omega
    rw [hlk] at hli;cases hli
  | false=>
   simp only [qm_] at h
   obtain ⟨v,hv,h⟩:=h
   obtain ⟨d,hdst,hself⟩:=hd.hasDst k o ho hlk
   obtain ⟨af,h1,h2,h3,h4,h5⟩:=evF_ok hd a0 K r m (k + 1) (a.put o.dst v) (by simpa using hl) hr' hm' (fun t ht=>by
    rw [qd_ _ _ _ _ (ht k o (by omega) ho hlk)]
    exact ha t fun j p hj hp hlj=>ht j p (by omega) hp hlj) h
   have hsz:(a.put o.dst v).tmps.size=a.tmps.size:=by rw [hdst];simp [Act.put]
   have hdf:(a.put o.dst v).defers=a.defers:=by rw [hdst];rfl
   have hlater:∀ (j:Nat) (p:Oper),k + 1<=j->ops[j]?=some p->loud[j]?=some false->p.dst ≠ some d:=fun j p hj hp hlj hpd=>
    hd.apart j p k o d hp ho (by omega) hdst hlj hpd
   refine ⟨af,h1,h2.trans hsz,h3.trans hdf,fun t ht=>?_,fun i o' hi ho' hli=>?_⟩
   ·rw [h4 t fun j p hj=>ht j p (by omega),qd_ _ _ _ _ (ht k o (Nat.le_refl _) ho hlk)]
   ·rcases Nat.lt_or_ge k i with hk | hk
    ·exact h5 i o' hk ho' hli
    ·obtain rfl:i=k:=by omega
     obtain rfl:o'=o:=Option.some.inj (ho'.symm.trans ho)
     refine ⟨v,fun b hb d' hd'=>?_,fun w hI b hb1 hb2=>?_⟩
     ·obtain rfl:d'=d:=Option.some.inj (hd'.symm.trans hdst)
      rw [h4 d' hlater]
      exact put_agree b a (by rw [hb,h2,hsz]) o'.dst v d' (.inl hdst)
     ·rw [<- hv w hI]
      congr 1
      refine execOp_reads o' (hd.guard i o' ho).2 b a fun t ht=>?_
      by_cases hex:∃ (j:Nat) (p:Oper),ops[j]?=some p/\loud[j]?=some false/\p.dst=some t
      ·rw [hb1 t ht hex]
       obtain ⟨j,p,hp,hlj,hpd⟩:=hex
       by_cases hij:i=j
       ·subst hij
        obtain rfl:p=o':=Option.some.inj (hp.symm.trans ho)
        obtain rfl:d=t:=Option.some.inj (hdst.symm.trans hpd)
        exact absurd ht hself
       ·rcases hd.reads i o' j p t ho hp hij hpd ht with ⟨_,hji,_⟩ | ⟨hlt,_⟩
        ·rw [h4 t fun j' p' hj' hp' hlj' hpd'=>?_]
         ·rw [qd_ _ _ _ _ (fun e=>?_)]
          exact hd.apart i o' j p t ho hp hij hpd hlk e
         ·have hjj:j' ≠ j:=by omega
          exact hd.apart j' p' j p t hp' hp hjj hpd hlj' hpd'
        ·rw [hlj] at hlt;cases hlt
      ·rw [hb2 t ht hex]
       exact (ha t fun j p hj hp hlj hpd=>hex ⟨j,p,hp,hlj,hpd⟩).symm
 | _ :: _,[],_,_,hl,_,_,_,_=>by simp at hl
def unl (n:Nat) (listed:Array Bool):Nat:=(List.range n).countP fun i=>!listed.getD i true
theorem unl_set {n i:Nat} {listed:Array Bool} (hi:i < n) (hs:listed.size=n) (h:listed.getD i true=false):unl n (listed.setIfInBounds i true) < unl n listed:=by
 unfold unl
 have key:∀ m,m<=n->(List.range m).countP (fun j=>!(listed.setIfInBounds i true).getD j true) + (if i < m then 1 else 0)=(List.range m).countP (fun j=>!listed.getD j true):=by
  intro m
  induction m with
  | zero=>intro _;simp
  | succ m ih=>
   intro hm
   rw [List.range_succ,List.countP_append,List.countP_append]
   have:=ih (by omega)
   by_cases e:i=m
   ·subst e
    have e1:(listed.setIfInBounds i true).getD i true=true:=by simp [hs,hi]
    simp only [Nat.lt_irrefl,if_false,Nat.add_zero] at this
    simp only [List.countP_cons,List.countP_nil,e1,h,this]
    simp
   ·rw [List.countP_cons,List.countP_cons,getD_set_ne true e]
    by_cases hlt:i < m
    ·have:i < m + 1:=by omega
     simp_all
     omega
    ·have:¬ i < m + 1:=by omega
     simp_all
 have:=key n (Nat.le_refl n)
 rw [if_pos hi] at this
 omega
theorem qg_ {ops:List Oper} {loud:List Bool} (hl:loud.length=ops.length):∀ (n:Nat),(∃ i o,n<=i/\ops[i]?=some o/\loud[i]?=some true/\(∀ j,n<=j->j < i->loud[j]?=some false) /\
   qc_ (ops.drop n) (loud.drop n)=o :: qc_ (ops.drop (i + 1)) (loud.drop (i + 1))) \/
  (qc_ (ops.drop n) (loud.drop n)=[]/\∀ j,n<=j->loud[j]? ≠ some true):=by
 intro n
 generalize hd:ops.length - n=d
 induction d generalizing n with
 | zero=>
  right
  have h1:ops.drop n=[]:=List.drop_eq_nil_of_le (by omega)
  refine ⟨by rw [h1];simp [qc_],fun j hj=>?_⟩
  rw [List.getElem?_eq_none (by omega)]
  simp
 | succ d ih=>
  have hn:n < ops.length:=by omega
  have hn2:n < loud.length:=by omega
  rw [List.drop_eq_getElem_cons hn,List.drop_eq_getElem_cons hn2]
  have ho:ops[n]?=some ops[n]:=List.getElem?_eq_getElem hn
  have hlo:loud[n]?=some loud[n]:=List.getElem?_eq_getElem hn2
  cases hc:loud[n] with
  | true=>
   left
   refine ⟨n,ops[n],Nat.le_refl _,ho,by rw [hlo,hc],fun j h1 h2=>by omega,?_⟩
   simp [qc_]
  | false=>
   simp only [qc_]
   rcases ih (n + 1) (by omega) with ⟨i,o,h1,h2,h3,h4,h5⟩ | ⟨h1,h2⟩
   ·left
    refine ⟨i,o,by omega,h2,h3,fun j hj hji=>?_,h5⟩
    by_cases e:j=n
    ·subst e;rw [hlo,hc]
    ·exact h4 j (by omega) hji
   ·right
    refine ⟨h1,fun j hj=>?_⟩
    by_cases e:j=n
    ·subst e;rw [hlo,hc];simp
    ·exact h2 j (by omega)
theorem draw_any {I:World->Prop} {Q:Exit->Act->World->Prop} {ops:List Oper} {loud:List Bool} (hd:DrawOk ops loud) {a0 af0:Act} (hF:FreeOk P I ops loud a0 af0) :
  ∀ (fuel:Nat) (listed:Array Bool) (a af:Act) (w:World) (n:Nat),unl ops.length listed<=fuel->DInv ops loud a0 af n listed a->af.tmps.size=af0.tmps.size ->
   (∀ (i:Nat) (o:Oper) (d:Nat),ops[i]?=some o->loud[i]?=some false->o.dst=some d->af.tmps.getD d undef=af0.tmps.getD d undef) ->
   wpLd P I Q (qc_ (ops.drop n) (loud.drop n)) af w->wpAny P .any ops.toArray Q fuel listed a w:=by
 have done:∀ (listed:Array Bool) (a af:Act) (w:World) (n:Nat),DInv ops loud a0 af n listed a->wpLd P I Q (qc_ (ops.drop n) (loud.drop n)) af w->Region.ready .any ops.toArray listed=[]->Q .normal a w:=by
  intro listed a af w n inv hw hr
  have all:∀ i,i < ops.length->listed.getD i false=true:=by
   intro i
   induction i using Nat.strongRecOn with
   | _ i ih=>
    intro hi
    cases hc:listed.getD i false with
    | true=>rfl
    | false=>
     exfalso
     have ho:ops[i]?=some ops[i]:=List.getElem?_eq_getElem hi
     have:i ∈ Region.ready .any ops.toArray listed:=by
      rw [mem_ready]
      refine ⟨getD_in (by rw [inv.size];exact hi) hc,ops[i],by simp,fun e he hb=>?_⟩
      have hlt:=hd.lower i _ ho e.on (by unfold ql_;exact Array.any_eq_true'.2 ⟨e,he,by simp [hb]⟩)
      exact ih e.on hlt (by omega)
     rw [hr] at this
     cases this
  have hnone:qc_ (ops.drop n) (loud.drop n)=[]:=by
   rcases qg_ hd.len n with ⟨i,o,h1,h2,h3,_⟩ | ⟨h1,_⟩
   ·have:=(inv.chain i h3).1 (all i (List.getElem?_eq_some_iff.1 h2).1)
    omega
   ·exact h1
  rw [hnone] at hw
  have e:a=af:=by
   obtain ⟨t1,d1⟩:=a
   obtain ⟨t2,d2⟩:=af
   have e1:d1=d2:=inv.defers
   have e2:t1=t2:=by
    apply Array.ext inv.asz
    intro i h1 h2
    have:=inv.agree i (fun j o ho _ hu=>by rw [all j (List.getElem?_eq_some_iff.1 ho).1] at hu;cases hu)
    simpa [h1,h2] using this
   rw [e1,e2]
  rw [e]
  exact hw.2
 intro fuel
 induction fuel with
 | zero=>
  intro listed a af w n hu inv _ _ hw
  have hr:Region.ready .any ops.toArray listed=[]:=by
   cases hr:Region.ready .any ops.toArray listed with
   | nil=>rfl
   | cons i r=>
    have hi:i ∈ Region.ready .any ops.toArray listed:=by rw [hr];exact List.mem_cons_self
    obtain ⟨h1,o,ho,_⟩:=mem_ready.1 hi
    have:=unl_set (n:=ops.length) (List.getElem?_eq_some_iff.1 (by simpa using ho:ops[i]?=some o)).1 inv.size h1
    omega
  exact ⟨hr,done listed a af w n inv hw hr⟩
 | succ fuel ih=>
  intro listed a af w n hu inv hsz hfix hw
  refine ⟨done listed a af w n inv hw,fun i hi=>?_⟩
  obtain ⟨hun,o,ho0,hall⟩:=mem_ready.1 hi
  have ho:ops[i]?=some o:=by simpa using ho0
  have hil:i < ops.length:=(List.getElem?_eq_some_iff.1 ho).1
  have hlt:i < loud.length:=by rw [hd.len];exact hil
  have hu':=unl_set (n:=ops.length) hil inv.size hun
  have hun':=getD_both hun
  have hwait:∀ j,ql_ o j=true->listed.getD j false=true:=by
   intro j hj
   unfold ql_ at hj
   obtain ⟨e,he,hb⟩:=Array.any_eq_true'.1 hj
   simp only [Bool.and_eq_true,beq_iff_eq] at hb
   rw [<- hb.2]
   exact hall e he hb.1
  have hset:∀ j,(listed.setIfInBounds i true).getD j false=true->j=i \/ listed.getD j false=true:=by
   intro j hj
   by_cases e:i=j
   ·exact .inl e.symm
   ·rw [getD_set_ne false e] at hj;exact .inr hj
  have hseti:(listed.setIfInBounds i true).getD i false=true:=by
   have:i < listed.size:=by rw [inv.size];exact hil
   simp [this]
  unfold wpOp
  rw [ho0]
  simp only
  rw [if_pos (by simp [Region.wanted,(hd.guard i o ho).1])]
  refine .inl ?_
  cases hlo:loud[i] with
  | false=>
   have hloi:loud[i]?=some false:=by rw [List.getElem?_eq_getElem hlt,hlo]
   obtain ⟨v,hv1,hv2⟩:=hF i o ho hloi
   obtain ⟨d,hdst,hself⟩:=hd.hasDst i o ho hloi
   have hrun:(execOp a.eval o).run P w=.ok (.value v) w:=by
    refine hv2 w (wpLd_I hw) a (fun t ht hex=>?_) (fun t ht hex=>?_)
    ·obtain ⟨j,p,hp,hlj,hpd⟩:=hex
     have hij:i ≠ j:=fun e=>by
      subst e
      obtain rfl:p=o:=Option.some.inj (hp.symm.trans ho)
      obtain rfl:d=t:=Option.some.inj (hdst.symm.trans hpd)
      exact hself ht
     rcases hd.reads i o j p t ho hp hij hpd ht with ⟨_,_,hwj⟩ | ⟨hltj,_⟩
     ·have hjl:=hwait j hwj
      rw [inv.agree t fun j' p' hp' hlj' huj' hpd'=>?_]
      ·exact hfix j p t hp hlj hpd
      ·by_cases e:j'=j
       ·subst e;rw [hjl] at huj';cases huj'
       ·exact hd.apart j' p' j p t hp' hp e hpd hlj' hpd'
     ·rw [hlj] at hltj;cases hltj
    ·refine inv.orig t fun j p hp hlj hpd=>?_
     by_cases hij:i=j
     ·subst hij;rw [hun'] at hlj;cases hlj
     ·rcases hd.reads i o j p t ho hp hij hpd ht with ⟨h1,_⟩ | ⟨hltj,h2⟩
      ·exact hex ⟨j,p,hp,h1,hpd⟩
      ·rcases h2 with h2 | h2
       ·rw [hloi] at h2;cases h2
       ·have:=inv.closed j p hp hlj i h2
        rw [hun'] at this;cases this
   unfold Oper.wp
   rw [hrun]
   show wpAny P .any ops.toArray Q fuel (listed.setIfInBounds i true) (a.put o.dst v) w
   refine ih _ _ af w n (by omega) ?_ hsz hfix hw
   have hpsz:(a.put o.dst v).tmps.size=a.tmps.size:=by rw [hdst];simp [Act.put]
   refine ⟨by simp [inv.size],hpsz.trans inv.asz,(by rw [hdst];exact inv.defers),fun j hj=>?_,fun j p hp hlj k hk=>?_,fun t ht=>?_,fun t ht=>?_⟩
   ·have hij:i ≠ j:=fun e=>by subst e;rw [hloi] at hj;cases hj
    rw [getD_set_ne false hij]
    exact inv.chain j hj
   ·rcases hset j hlj with e | e
    ·subst e
     obtain rfl:p=o:=Option.some.inj (hp.symm.trans ho)
     exact getD_set_true (hwait k hk)
    ·exact getD_set_true (inv.closed j p hp e k hk)
   ·by_cases e:d=t
    ·subst e
     rw [hv1 a (inv.asz.trans hsz) d hdst]
     exact (hfix i o d ho hloi hdst).symm
    ·rw [qd_ _ _ _ _ (by rw [hdst];simpa using e)]
     refine inv.agree t fun j p hp hlj huj=>?_
     by_cases e2:i=j
     ·subst e2
      obtain rfl:p=o:=Option.some.inj (hp.symm.trans ho)
      rw [hdst];simpa using e
     ·exact ht j p hp hlj (by rw [getD_set_ne false e2];exact huj)
   ·rw [qd_ _ _ _ _ (ht i o ho hseti)]
    exact inv.orig t fun j p hp hlj=>ht j p hp (getD_set_true hlj)
  | true=>
   have hloi:loud[i]?=some true:=by rw [List.getElem?_eq_getElem hlt,hlo]
   rcases qg_ hd.len n with ⟨k,o',h1,h2,h3,h4,h5⟩ | ⟨_,h2⟩
   ·-- the next of the chain is this one
    have hni:n<=i:=by
     rcases Nat.lt_or_ge i n with h | h
     ·have:=(inv.chain i hloi).2 h
      rw [hun'] at this;cases this
     ·exact h
    have hki:k=i:=by
     rcases Nat.lt_trichotomy k i with h | h | h
     ·exfalso
      have:∀ (m:Nat),∀ q,i - q=m->k<=q->q < i->loud[q]?=some true->False:=by
       intro m
       induction m using Nat.strongRecOn with
       | _ m ihm=>
        intro q hm hkq hqi hq
        rcases hd.chain i o q ho hloi hq hqi with hw1 | ⟨r,hr1,hr2,hr3⟩
        ·have:=(inv.chain q hq).1 (hwait q hw1)
         omega
        ·exact ihm (i - r) (by omega) r rfl (by omega) hr2 hr3
      exact this _ k rfl (Nat.le_refl _) h h3
     ·exact h
     ·have:=h4 i hni h
      rw [hloi] at this;cases this
    subst hki
    obtain rfl:o'=o:=Option.some.inj (h2.symm.trans ho)
    rw [h5] at hw
    refine wp_congr_reads (a:=af) (b:=a) (hd.guard k o' ho).2 (fun t ht=>?_) inv.defers.symm (fun ds v w' hk=>?_) hw.2
    ·refine (inv.agree t fun j p hp hlj huj hpd=>?_).symm
     have hij:k ≠ j:=fun e=>by subst e;rw [hloi] at hlj;cases hlj
     rcases hd.reads k o' j p t ho hp hij hpd ht with ⟨_,_,hwj⟩ | ⟨hltj,_⟩
     ·rw [hwait j hwj] at huj;cases huj
     ·rw [hlj] at hltj;cases hltj
    ·refine ih _ _ (({ af with defers:=ds }:Act).put o'.dst v) w' (k + 1) (by omega) ?_ ?_ (fun i' o'' d' hi' hli' hd'=>?_) hk
     ·have hps:∀ (x:Act),(({ x with defers:=ds }:Act).put o'.dst v).tmps.size=x.tmps.size:=fun x=>by cases o'.dst <;> simp [Act.put]
      have hpd:∀ (x:Act),(({ x with defers:=ds }:Act).put o'.dst v).defers=ds:=fun x=>by cases o'.dst <;> rfl
      refine ⟨by simp [inv.size],by rw [hps,hps];exact inv.asz,by rw [hpd,hpd],fun j hj=>?_,fun j p hp hlj q hq=>?_,fun t ht=>?_,fun t ht=>?_⟩
      ·by_cases e:k=j
       ·subst e;rw [hseti];simp
       ·rw [getD_set_ne false e,inv.chain j hj]
        constructor
        ·intro h;omega
        ·intro h
         rcases Nat.lt_or_ge j n with h' | h'
         ·exact h'
         ·have:=h4 j h' (by omega)
          rw [hj] at this;cases this
      ·rcases hset j hlj with e | e
       ·subst e
        obtain rfl:p=o':=Option.some.inj (hp.symm.trans ho)
        exact getD_set_true (hwait q hq)
       ·exact getD_set_true (inv.closed j p hp e q hq)
      ·refine put_agree { a with defers:=ds } { af with defers:=ds } inv.asz o'.dst v t ?_
       by_cases e:o'.dst=some t
       ·exact .inl e
       ·refine .inr (inv.agree t fun j p hp hlj huj=>?_)
        have hij:k ≠ j:=fun e=>by subst e;rw [hloi] at hlj;cases hlj
        exact ht j p hp hlj (by rw [getD_set_ne false hij];exact huj)
      ·rw [qd_ _ _ _ _ (ht k o' ho hseti)]
       exact inv.orig t fun j p hp hlj=>ht j p hp (getD_set_true hlj)
     ·have:(({ af with defers:=ds }:Act).put o'.dst v).tmps.size=af.tmps.size:=by cases o'.dst <;> simp [Act.put]
      exact this.trans hsz
     ·have hij:i' ≠ k:=fun e=>by subst e;rw [hloi] at hli';cases hli'
      rw [qd_ _ _ _ _ (fun e=>hd.apart i' o'' k o' d' hi' ho hij e hli' hd')]
      exact hfix i' o'' d' hi' hli' hd'
   ·exfalso
    have hni:n<=i:=by
     rcases Nat.lt_or_ge i n with h | h
     ·have:=(inv.chain i hloi).2 h
      rw [hun'] at this;cases this
     ·exact h
    exact h2 i hni hloi
theorem wp_draw (hm:P.follows .mixedOrders=true) {id:Nat} {l:List Oper} {loud:List Bool} (hB:drawB l loud=true) (I:World->Prop) {Q:Exit->Act->World->Prop} {a:Act} {w:World}
  (h:evF P I (qm_ l loud) a fun af=>wpLd P I Q (qc_ l loud) af w.drew):(Code.region id l.toArray true).wp P Q a w:=by
 have hd:=drawB_ok hB
 obtain ⟨af,h1,h2,h3,h4,h5⟩:=evF_ok hd.toDrawO1 a _ l loud 0 a hd.len.symm (by simp) (by simp) (fun t _=>rfl) h
 refine wp_region_any hm ?_
 refine draw_any hd (a0:=a) (af0:=af) (fun i o ho hl=>h5 i o (Nat.zero_le _) ho hl) _ _ a af _ 0 ?_ ?_ rfl (fun _ _ _ _ _ _=>rfl) (by simpa using h1)
 ·unfold unl
  exact Nat.le_trans List.countP_le_length (by simp)
 ·refine ⟨by simp,h2.symm,h3.symm,fun i hi=>?_,fun i o _ hl=>?_,fun t ht=>?_,fun t _=>rfl⟩
  ·rw [getD_replicate_false];simp
  ·rw [getD_replicate_false] at hl;cases hl
  ·exact (h4 t fun j p _ hp hlj=>ht j p hp hlj (getD_replicate_false _ _)).symm
def wpLq (P:Program) (I:World->Prop) (Q:Exit->Act->World->Prop):List Oper->Act->World->Prop
 | [],a,w=>Q .normal a w
 | o :: r,a,w=>I w/\o.wp P a w (wpLq P I Q r) (fun _ _ _=>False)
def lastB (ops:List Oper) (loud:List Bool):Bool:=
 (match ops.getLast? with | some o=>(match o.op with | .store ..=>true | _=>false) | none=>false) &&
 (List.range ops.length).all fun i=>(loud[i]?).getD false || (List.range ops.length).any fun j=>decide (i < j) && (match ops[j]? with | some p=>ql_ p i | none=>false)
theorem lastB_ok {ops:List Oper} {loud:List Bool} (h:lastB ops loud=true) {listed:Array Bool} (hc:∀ (i:Nat) o,ops[i]?=some o->listed.getD i false=true->∀ j,ql_ o j=true->listed.getD j false=true)
  (hl:∀ i:Nat,loud[i]?=some true->listed.getD i false=true) (i:Nat) (hi:i < ops.length):listed.getD i false=true:=by
 have h:=(Bool.and_eq_true_iff.1 h).2
 generalize hm:ops.length - i=m
 induction m using Nat.strongRecOn generalizing i with
 | _ m ih=>
  have h1:=List.all_eq_true.1 h i (List.mem_range.2 hi)
  rcases Bool.or_eq_true_iff.1 h1 with h2 | h2
  ·refine hl i ?_
   cases hli:loud[i]? with
   | none=>rw [hli] at h2;simp at h2
   | some b=>rw [hli] at h2;simp at h2;rw [h2]
  ·obtain ⟨j,hj,h3⟩:=List.any_eq_true.1 h2
   have hjl:=List.mem_range.1 hj
   obtain ⟨h4,h5⟩:=Bool.and_eq_true_iff.1 h3
   have hij:i < j:=by simpa using h4
   have ho:ops[j]?=some ops[j]:=List.getElem?_eq_getElem hjl
   rw [ho] at h5
   exact hc j _ ho (ih (ops.length - j) (by omega) j hjl rfl) i h5
theorem draw_anyQ {I:World->Prop} {Q:Exit->Act->World->Prop} {ops:List Oper} {loud:List Bool} (hd:DrawOk ops loud) (hlast:lastB ops loud=true) {a0 af0:Act} (hF:FreeOk P I ops loud a0 af0) :
  ∀ (fuel:Nat) (listed:Array Bool) (a af:Act) (w:World) (n:Nat),unl ops.length listed<=fuel->DInv ops loud a0 af n listed a->af.tmps.size=af0.tmps.size ->
   (∀ (i:Nat) (o:Oper) (d:Nat),ops[i]?=some o->loud[i]?=some false->o.dst=some d->af.tmps.getD d undef=af0.tmps.getD d undef) ->
   wpLq P I Q (qc_ (ops.drop n) (loud.drop n)) af w->wpAny P .any ops.toArray Q fuel listed a w:=by
 have done:∀ (listed:Array Bool) (a af:Act) (w:World) (n:Nat),DInv ops loud a0 af n listed a->wpLq P I Q (qc_ (ops.drop n) (loud.drop n)) af w->Region.ready .any ops.toArray listed=[]->Q .normal a w:=by
  intro listed a af w n inv hw hr
  have all:∀ i,i < ops.length->listed.getD i false=true:=by
   intro i
   induction i using Nat.strongRecOn with
   | _ i ih=>
    intro hi
    cases hc:listed.getD i false with
    | true=>rfl
    | false=>
     exfalso
     have ho:ops[i]?=some ops[i]:=List.getElem?_eq_getElem hi
     have:i ∈ Region.ready .any ops.toArray listed:=by
      rw [mem_ready]
      refine ⟨getD_in (by rw [inv.size];exact hi) hc,ops[i],by simp,fun e he hb=>?_⟩
      have hlt:=hd.lower i _ ho e.on (by unfold ql_;exact Array.any_eq_true'.2 ⟨e,he,by simp [hb]⟩)
      exact ih e.on hlt (by omega)
     rw [hr] at this
     cases this
  have hnone:qc_ (ops.drop n) (loud.drop n)=[]:=by
   rcases qg_ hd.len n with ⟨i,o,h1,h2,h3,_⟩ | ⟨h1,_⟩
   ·have:=(inv.chain i h3).1 (all i (List.getElem?_eq_some_iff.1 h2).1)
    omega
   ·exact h1
  rw [hnone] at hw
  have e:a=af:=by
   obtain ⟨t1,d1⟩:=a
   obtain ⟨t2,d2⟩:=af
   have e1:d1=d2:=inv.defers
   have e2:t1=t2:=by
    apply Array.ext inv.asz
    intro i h1 h2
    have:=inv.agree i (fun j o ho _ hu=>by rw [all j (List.getElem?_eq_some_iff.1 ho).1] at hu;cases hu)
    simpa [h1,h2] using this
   rw [e1,e2]
  rw [e]
  exact hw
 intro fuel
 induction fuel with
 | zero=>
  intro listed a af w n hu inv _ _ hw
  have hr:Region.ready .any ops.toArray listed=[]:=by
   cases hr:Region.ready .any ops.toArray listed with
   | nil=>rfl
   | cons i r=>
    have hi:i ∈ Region.ready .any ops.toArray listed:=by rw [hr];exact List.mem_cons_self
    obtain ⟨h1,o,ho,_⟩:=mem_ready.1 hi
    have:=unl_set (n:=ops.length) (List.getElem?_eq_some_iff.1 (by simpa using ho:ops[i]?=some o)).1 inv.size h1
    omega
  exact ⟨hr,done listed a af w n inv hw hr⟩
 | succ fuel ih=>
  intro listed a af w n hu inv hsz hfix hw
  refine ⟨done listed a af w n inv hw,fun i hi=>?_⟩
  obtain ⟨hun,o,ho0,hall⟩:=mem_ready.1 hi
  have ho:ops[i]?=some o:=by simpa using ho0
  have hil:i < ops.length:=(List.getElem?_eq_some_iff.1 ho).1
  have hlt:i < loud.length:=by rw [hd.len];exact hil
  have hu':=unl_set (n:=ops.length) hil inv.size hun
  have hun':=getD_both hun
  have hwait:∀ j,ql_ o j=true->listed.getD j false=true:=by
   intro j hj
   unfold ql_ at hj
   obtain ⟨e,he,hb⟩:=Array.any_eq_true'.1 hj
   simp only [Bool.and_eq_true,beq_iff_eq] at hb
   rw [<- hb.2]
   exact hall e he hb.1
  have hset:∀ j,(listed.setIfInBounds i true).getD j false=true->j=i \/ listed.getD j false=true:=by
   intro j hj
   by_cases e:i=j
   ·exact .inl e.symm
   ·rw [getD_set_ne false e] at hj;exact .inr hj
  have hseti:(listed.setIfInBounds i true).getD i false=true:=by
   have:i < listed.size:=by rw [inv.size];exact hil
   simp [this]
  unfold wpOp
  rw [ho0]
  simp only
  rw [if_pos (by simp [Region.wanted,(hd.guard i o ho).1])]
  refine .inl ?_
  cases hlo:loud[i] with
  | false=>
   have hloi:loud[i]?=some false:=by rw [List.getElem?_eq_getElem hlt,hlo]
   obtain ⟨v,hv1,hv2⟩:=hF i o ho hloi
   obtain ⟨d,hdst,hself⟩:=hd.hasDst i o ho hloi
   have hIw:I w:=by
    rcases qg_ hd.len n with ⟨k,o',_,_,_,_,h5⟩ | ⟨_,h2⟩
    ·rw [h5] at hw
     exact hw.1
    ·have hl:∀ j:Nat,loud[j]?=some true->listed.getD j false=true:=fun j hj=>(inv.chain j hj).2 (by
      rcases Nat.lt_or_ge j n with h | h
      ·exact h
      ·exact absurd hj (h2 j h))
     have:=lastB_ok hlast inv.closed hl i hil
     rw [hun'] at this
     cases this
   have hrun:(execOp a.eval o).run P w=.ok (.value v) w:=by
    refine hv2 w hIw a (fun t ht hex=>?_) (fun t ht hex=>?_)
    ·obtain ⟨j,p,hp,hlj,hpd⟩:=hex
     have hij:i ≠ j:=fun e=>by
      subst e
      obtain rfl:p=o:=Option.some.inj (hp.symm.trans ho)
      obtain rfl:d=t:=Option.some.inj (hdst.symm.trans hpd)
      exact hself ht
     rcases hd.reads i o j p t ho hp hij hpd ht with ⟨_,_,hwj⟩ | ⟨hltj,_⟩
     ·have hjl:=hwait j hwj
      rw [inv.agree t fun j' p' hp' hlj' huj' hpd'=>?_]
      ·exact hfix j p t hp hlj hpd
      ·by_cases e:j'=j
       ·subst e;rw [hjl] at huj';cases huj'
       ·exact hd.apart j' p' j p t hp' hp e hpd hlj' hpd'
     ·rw [hlj] at hltj;cases hltj
    ·refine inv.orig t fun j p hp hlj hpd=>?_
     by_cases hij:i=j
     ·subst hij;rw [hun'] at hlj;cases hlj
     ·rcases hd.reads i o j p t ho hp hij hpd ht with ⟨h1,_⟩ | ⟨hltj,h2⟩
      ·exact hex ⟨j,p,hp,h1,hpd⟩
      ·rcases h2 with h2 | h2
       ·rw [hloi] at h2;cases h2
       ·have:=inv.closed j p hp hlj i h2
        rw [hun'] at this;cases this
   unfold Oper.wp
   rw [hrun]
   show wpAny P .any ops.toArray Q fuel (listed.setIfInBounds i true) (a.put o.dst v) w
   refine ih _ _ af w n (by omega) ?_ hsz hfix hw
   have hpsz:(a.put o.dst v).tmps.size=a.tmps.size:=by rw [hdst];simp [Act.put]
   refine ⟨by simp [inv.size],hpsz.trans inv.asz,(by rw [hdst];exact inv.defers),fun j hj=>?_,fun j p hp hlj k hk=>?_,fun t ht=>?_,fun t ht=>?_⟩
   ·have hij:i ≠ j:=fun e=>by subst e;rw [hloi] at hj;cases hj
    rw [getD_set_ne false hij]
    exact inv.chain j hj
   ·rcases hset j hlj with e | e
    ·subst e
     obtain rfl:p=o:=Option.some.inj (hp.symm.trans ho)
     exact getD_set_true (hwait k hk)
    ·exact getD_set_true (inv.closed j p hp e k hk)
   ·by_cases e:d=t
    ·subst e
     rw [hv1 a (inv.asz.trans hsz) d hdst]
     exact (hfix i o d ho hloi hdst).symm
    ·rw [qd_ _ _ _ _ (by rw [hdst];simpa using e)]
     refine inv.agree t fun j p hp hlj huj=>?_
     by_cases e2:i=j
     ·subst e2
      obtain rfl:p=o:=Option.some.inj (hp.symm.trans ho)
      rw [hdst];simpa using e
     ·exact ht j p hp hlj (by rw [getD_set_ne false e2];exact huj)
   ·rw [qd_ _ _ _ _ (ht i o ho hseti)]
    exact inv.orig t fun j p hp hlj=>ht j p hp (getD_set_true hlj)
  | true=>
   have hloi:loud[i]?=some true:=by rw [List.getElem?_eq_getElem hlt,hlo]
   rcases qg_ hd.len n with ⟨k,o',h1,h2,h3,h4,h5⟩ | ⟨_,h2⟩
   ·-- the next of the chain is this one
    have hni:n<=i:=by
     rcases Nat.lt_or_ge i n with h | h
     ·have:=(inv.chain i hloi).2 h
      rw [hun'] at this;cases this
     ·exact h
    have hki:k=i:=by
     rcases Nat.lt_trichotomy k i with h | h | h
     ·exfalso
      have:∀ (m:Nat),∀ q,i - q=m->k<=q->q < i->loud[q]?=some true->False:=by
       intro m
       induction m using Nat.strongRecOn with
       | _ m ihm=>
        intro q hm hkq hqi hq
        rcases hd.chain i o q ho hloi hq hqi with hw1 | ⟨r,hr1,hr2,hr3⟩
        ·have:=(inv.chain q hq).1 (hwait q hw1)
         omega
        ·exact ihm (i - r) (by omega) r rfl (by omega) hr2 hr3
      exact this _ k rfl (Nat.le_refl _) h h3
     ·exact h
     ·have:=h4 i hni h
      rw [hloi] at this;cases this
    subst hki
    obtain rfl:o'=o:=Option.some.inj (h2.symm.trans ho)
    rw [h5] at hw
    refine wp_congr_reads (a:=af) (b:=a) (hd.guard k o' ho).2 (fun t ht=>?_) inv.defers.symm (fun ds v w' hk=>?_) hw.2
    ·refine (inv.agree t fun j p hp hlj huj hpd=>?_).symm
     have hij:k ≠ j:=fun e=>by subst e;rw [hloi] at hlj;cases hlj
     rcases hd.reads k o' j p t ho hp hij hpd ht with ⟨_,_,hwj⟩ | ⟨hltj,_⟩
     ·rw [hwait j hwj] at huj;cases huj
     ·rw [hlj] at hltj;cases hltj
    ·refine ih _ _ (({ af with defers:=ds }:Act).put o'.dst v) w' (k + 1) (by omega) ?_ ?_ (fun i' o'' d' hi' hli' hd'=>?_) hk
     ·have hps:∀ (x:Act),(({ x with defers:=ds }:Act).put o'.dst v).tmps.size=x.tmps.size:=fun x=>by cases o'.dst <;> simp [Act.put]
      have hpd:∀ (x:Act),(({ x with defers:=ds }:Act).put o'.dst v).defers=ds:=fun x=>by cases o'.dst <;> rfl
      refine ⟨by simp [inv.size],by rw [hps,hps];exact inv.asz,by rw [hpd,hpd],fun j hj=>?_,fun j p hp hlj q hq=>?_,fun t ht=>?_,fun t ht=>?_⟩
      ·by_cases e:k=j
       ·subst e;rw [hseti];simp
       ·rw [getD_set_ne false e,inv.chain j hj]
        constructor
        ·intro h;omega
        ·intro h
         rcases Nat.lt_or_ge j n with h' | h'
         ·exact h'
         ·have:=h4 j h' (by omega)
          rw [hj] at this;cases this
      ·rcases hset j hlj with e | e
       ·subst e
        obtain rfl:p=o':=Option.some.inj (hp.symm.trans ho)
        exact getD_set_true (hwait q hq)
       ·exact getD_set_true (inv.closed j p hp e q hq)
      ·refine put_agree { a with defers:=ds } { af with defers:=ds } inv.asz o'.dst v t ?_
       by_cases e:o'.dst=some t
       ·exact .inl e
       ·refine .inr (inv.agree t fun j p hp hlj huj=>?_)
        have hij:k ≠ j:=fun e=>by subst e;rw [hloi] at hlj;cases hlj
        exact ht j p hp hlj (by rw [getD_set_ne false hij];exact huj)
      ·rw [qd_ _ _ _ _ (ht k o' ho hseti)]
       exact inv.orig t fun j p hp hlj=>ht j p hp (getD_set_true hlj)
     ·have:(({ af with defers:=ds }:Act).put o'.dst v).tmps.size=af.tmps.size:=by cases o'.dst <;> simp [Act.put]
      exact this.trans hsz
     ·have hij:i' ≠ k:=fun e=>by subst e;rw [hloi] at hli';cases hli'
      rw [qd_ _ _ _ _ (fun e=>hd.apart i' o'' k o' d' hi' ho hij e hli' hd')]
      exact hfix i' o'' d' hi' hli' hd'
   ·exfalso
    have hni:n<=i:=by
     rcases Nat.lt_or_ge i n with h | h
     ·have:=(inv.chain i hloi).2 h
      rw [hun'] at this;cases this
     ·exact h
    exact h2 i hni hloi
theorem wp_drawQ (hm:P.follows .mixedOrders=true) {id:Nat} {l:List Oper} {loud:List Bool} (hB:drawB l loud=true) (hlast:lastB l loud=true) (I:World->Prop) {Q:Exit->Act->World->Prop} {a:Act} {w:World}
  (h:evF P I (qm_ l loud) a fun af=>wpLq P I Q (qc_ l loud) af w.drew):(Code.region id l.toArray true).wp P Q a w:=by
 have hd:=drawB_ok hB
 obtain ⟨af,h1,h2,h3,h4,h5⟩:=evF_ok hd.toDrawO1 a _ l loud 0 a hd.len.symm (by simp) (by simp) (fun t _=>rfl) h
 refine wp_region_any hm ?_
 refine draw_anyQ hd hlast (a0:=a) (af0:=af) (fun i o ho hl=>h5 i o (Nat.zero_le _) ho hl) _ _ a af _ 0 ?_ ?_ rfl (fun _ _ _ _ _ _=>rfl) (by simpa using h1)
 ·unfold unl
  exact Nat.le_trans List.countP_le_length (by simp)
 ·refine ⟨by simp,h2.symm,h3.symm,fun i hi=>?_,fun i o _ hl=>?_,fun t ht=>?_,fun t _=>rfl⟩
  ·rw [getD_replicate_false];simp
  ·rw [getD_replicate_false] at hl;cases hl
  ·exact (h4 t fun j p _ hp hlj=>ht j p hp hlj (getD_replicate_false _ _)).symm
end
def want (cv:Nat->Bool) (o:Oper):Bool:=match o.guard with | none=>true | some (j,b)=>cv j == b
def gsOf (ops:List Oper):List Nat:=ops.filterMap fun o=>o.guard.map (·.1)
def gdB (ops:List Oper) (loud:List Bool) (o:Oper):Bool:=
 match o.guard with
 | none=>true
 | some (j,_)=>ql_ o j && (loud[j]?).getD false && (match ops[j]? with
  | some p=>(match p.dst with
   | some d=>(List.range ops.length).all fun k=>decide (k=j) || (match ops[k]? with | some q=>q.dst != some d | none=>true)
   | none=>false)
  | none=>false)
def drawGB (ops:List Oper) (loud:List Bool):Bool:=
 (ops.all fun o=>gdB ops loud o && !isSel o) && loud.length == ops.length &&
 ((List.range ops.length).all fun i=>
  match ops[i]?,loud[i]? with
  | some o,some l=>
   (l || (match o.dst with | some d=>!(rdsOf o).contains d | none=>false)) && (o.after.all fun e=>!Region.binds .any e || decide (e.on < i)) &&
   ((List.range ops.length).all fun j=>
    match ops[j]?,loud[j]? with
    | some p,some m=>
     decide (i=j) ||
     ((match p.dst with
      | some d=>
       (!(rdsOf o).contains d || (!m && decide (j < i) && ql_ o j) || (m && (l || ql_ p i))) &&
       (l || o.dst != some d)
      | none=>true) &&
     (!(l && m && decide (j < i)) || ql_ o j || (List.range ops.length).any fun k=>decide (j < k) && decide (k < i) && (loud[k]?).getD false))
    | _,_=>false)
  | _,_=>false)
section
variable {P:Program}
def evG (P:Program) (cv:Nat->Bool) (I:World->Prop):List Oper->Act->(Act->Prop)->Prop
 | [],a,K=>K a
 | o :: r,a,K=>if want cv o=true then (∃ v,(∀ w,I w->(execOp a.eval o).run P w=.ok (.value v) w)/\evG P cv I r (a.put o.dst v) K) else evG P cv I r (a.put o.dst undef) K
theorem evG_cons {cv:Nat->Bool} {I:World->Prop} {o:Oper} {r:List Oper} {a:Act} {K:Act->Prop} (h:evG P cv I (o :: r) a K):∃ v,(want cv o=false->v=undef)/\(want cv o=true->∀ w,I w->(execOp a.eval o).run P w=.ok (.value v) w)/\evG P cv I r (a.put o.dst v) K:=by
 simp only [evG] at h
 split at h
 ·rename_i hw
  obtain ⟨v,h1,h2⟩:=h
  exact ⟨v,fun hf=>absurd (hw.symm.trans hf) (by simp),fun _=>h1,h2⟩
 ·rename_i hw
  exact ⟨undef,fun _=>rfl,fun ht=>absurd ht hw,h⟩
def GdAt (ops:List Oper) (cv:Nat->Bool) (i:Nat) (a:Act):Prop:=∀ j ∈ gsOf ops,j < i->yielded ops.toArray a.tmps j=some (cv j)
def wpLg (P:Program) (ops:List Oper) (cv:Nat->Bool) (I:World->Prop) (Q:Exit->Act->World->Prop):List (Nat × Oper)->Act->World->Prop
 | [],a,w=>I w/\GdAt ops cv ops.length a/\Q .normal a w
 | (i,o) :: r,a,w=>I w/\GdAt ops cv i a/\(if want cv o=true then o.wp P a w (wpLg P ops cv I Q r) (fun _ _ _=>False) else wpLg P ops cv I Q r (a.put o.dst undef) w)
theorem wpLg_I {ops:List Oper} {cv:Nat->Bool} {I:World->Prop} {Q:Exit->Act->World->Prop} {l:List (Nat × Oper)} {a:Act} {w:World} (h:wpLg P ops cv I Q l a w):I w:=by
 cases l with
 | nil=>exact h.1
 | cons p l=>exact h.1
def qq_:Nat->List Oper->List Bool->List (Nat × Oper)
 | k,o :: r,l :: m=>if l then (k,o) :: qq_ (k + 1) r m else qq_ (k + 1) r m
 | _,_,_=>[]
structure DrawGk (ops:List Oper) (loud:List Bool):Prop where
 len:loud.length=ops.length
 sel:∀ (i:Nat) (o:Oper),ops[i]?=some o->isSel o=false
 guard:∀ (i:Nat) (o:Oper) (j:Nat) (b:Bool),ops[i]?=some o->o.guard=some (j,b)->ql_ o j=true/\loud[j]?=some true/\∃ p d,ops[j]?=some p/\p.dst=some d/\∀ (k:Nat) (q:Oper),ops[k]?=some q->k ≠ j->q.dst ≠ some d
 hasDst:∀ (i:Nat) (o:Oper),ops[i]?=some o->loud[i]?=some false->∃ d,o.dst=some d/\d ∉ rdsOf o
 lower:∀ (i:Nat) (o:Oper),ops[i]?=some o->∀ j,ql_ o j=true->j < i
 reads:∀ (i:Nat) (o:Oper) (j:Nat) (p:Oper) (d:Nat),ops[i]?=some o->ops[j]?=some p->i ≠ j->p.dst=some d->d ∈ rdsOf o ->
  (loud[j]?=some false/\j < i/\ql_ o j=true) \/ (loud[j]?=some true/\(loud[i]?=some true \/ ql_ p i=true))
 apart:∀ (i:Nat) (o:Oper) (j:Nat) (p:Oper) (d:Nat),ops[i]?=some o->ops[j]?=some p->i ≠ j->p.dst=some d->loud[i]?=some false->o.dst ≠ some d
 chain:∀ (i:Nat) (o:Oper) (j:Nat),ops[i]?=some o->loud[i]?=some true->loud[j]?=some true->j < i->ql_ o j=true \/ ∃ k:Nat,j < k/\k < i/\loud[k]?=some true
theorem drawGB_ok {ops:List Oper} {loud:List Bool} (h:drawGB ops loud=true):DrawGk ops loud:=by
 simp only [drawGB,Bool.and_eq_true,List.all_eq_true,List.mem_range,beq_iff_eq,Bool.not_eq_true'] at h
 obtain ⟨⟨hg,hl⟩,hh⟩:=h
 have key:∀ (i:Nat) (o:Oper),ops[i]?=some o->∃ l,loud[i]?=some l:=by
  intro i o ho
  have:i < loud.length:=by rw [hl];exact (List.getElem?_eq_some_iff.1 ho).1
  exact ⟨_,List.getElem?_eq_getElem this⟩
 have row:∀ (i:Nat) (o:Oper) (l:Bool),ops[i]?=some o->loud[i]?=some l->_:=fun i o l ho hlo=>by
  have h1:=hh i (List.getElem?_eq_some_iff.1 ho).1
  rw [ho,hlo] at h1
  simp only [Bool.and_eq_true,List.all_eq_true,List.mem_range] at h1
  exact h1
 have cell:∀ (i:Nat) (o:Oper) (l:Bool) (j:Nat) (p:Oper) (m:Bool),ops[i]?=some o->loud[i]?=some l->ops[j]?=some p->loud[j]?=some m->_:=fun i o l j p m ho hlo hp hm=>by
  have h1:=(row i o l ho hlo).2 j (List.getElem?_eq_some_iff.1 hp).1
  rw [hp,hm] at h1
  exact h1
 refine ⟨hl,fun i o ho=>?_,fun i o j b ho hgd=>?_,fun i o ho hlo=>?_,fun i o ho j hw=>?_,fun i o j p d ho hp hij hd hr=>?_,fun i o j p d ho hp hij hd hlo=>?_,fun i o j ho hlo hlj hji=>?_⟩
 ·have:=hg o (List.mem_of_getElem? ho)
  exact this.2
 ·have h1:=(hg o (List.mem_of_getElem? ho)).1
  unfold gdB at h1
  rw [hgd] at h1
  simp only [Bool.and_eq_true] at h1
  obtain ⟨⟨h1,h2⟩,h3⟩:=h1
  refine ⟨h1,?_,?_⟩
  ·cases hc:loud[j]? with
   | none=>rw [hc] at h2;simp at h2
   | some x=>rw [hc] at h2;simp at h2;rw [h2]
  ·cases hp:ops[j]? with
   | none=>rw [hp] at h3;simp at h3
   | some p=>
    rw [hp] at h3
    simp only at h3
    cases hd:p.dst with
    | none=>rw [hd] at h3;simp at h3
    | some d=>
     rw [hd] at h3
     refine ⟨p,d,rfl,hd,fun k q hq hk hqd=>?_⟩
     have h4:=List.all_eq_true.1 h3 k (List.mem_range.2 (List.getElem?_eq_some_iff.1 hq).1)
     rw [hq] at h4
     simp [hk,hqd] at h4
 ·have:=(row i o false ho hlo).1.1
  cases hd:o.dst with
  | none=>rw [hd] at this;simp at this
  | some d=>rw [hd] at this;exact ⟨d,rfl,by simpa using this⟩
 ·obtain ⟨l,hlo⟩:=key i o ho
  have h1:=(row i o l ho hlo).1.2
  unfold ql_ at hw
  obtain ⟨e,he,hb⟩:=Array.any_eq_true'.1 hw
  simp only [Bool.and_eq_true,beq_iff_eq] at hb
  have h2:=Array.all_eq_true'.1 h1 e he
  simp only [hb.1,Bool.not_true,Bool.false_or,decide_eq_true_eq] at h2
  omega
 ·obtain ⟨l,hlo⟩:=key i o ho
  obtain ⟨m,hlm⟩:=key j p hp
  have h1:=cell i o l j p m ho hlo hp hlm
  simp only [hd,hij,decide_false,Bool.false_or,Bool.and_eq_true,Bool.or_eq_true,List.contains_eq_mem,hr,decide_true,Bool.not_true,Bool.not_eq_true',decide_eq_true_eq] at h1
  rcases h1.1.1 with ⟨⟨h2,h3⟩,h4⟩ | ⟨h2,h3⟩
  ·subst h2;exact .inl ⟨hlm,h3,h4⟩
  ·subst h2
   refine .inr ⟨hlm,?_⟩
   rcases h3 with h3 | h3
   ·subst h3;exact .inl hlo
   ·exact .inr h3
 ·obtain ⟨m,hlm⟩:=key j p hp
  have h1:=cell i o false j p m ho hlo hp hlm
  simp only [hd,hij,decide_false,Bool.false_or,Bool.and_eq_true] at h1
  simpa using h1.1.2
 ·have hjl:j < ops.length:=by rw [<- hl];exact (List.getElem?_eq_some_iff.1 hlj).1
  have hp:ops[j]?=some ops[j]:=List.getElem?_eq_getElem hjl
  have h1:=cell i o true j _ true ho hlo hp hlj
  have hij:i ≠ j:=by omega
  simp only [hij,decide_false,Bool.false_or,Bool.and_eq_true,hji,decide_true,Bool.not_true,Bool.or_eq_true,Bool.true_and] at h1
  rcases h1.2 with h2 | h2
  ·exact .inl h2
  ·obtain ⟨k,hk,hk2⟩:=List.any_eq_true.1 h2
   simp only [Bool.and_eq_true,decide_eq_true_eq] at hk2
   refine .inr ⟨k,hk2.1.1,hk2.1.2,?_⟩
   cases hc:loud[k]? with
   | none=>rw [hc] at hk2;simp at hk2
   | some x=>rw [hc] at hk2;simp at hk2;rw [hk2.2]
def FreeGk (P:Program) (cv:Nat->Bool) (I:World->Prop) (ops:List Oper) (loud:List Bool) (a0 af:Act):Prop:=
 ∀ (i:Nat) (o:Oper),ops[i]?=some o->loud[i]?=some false->∃ v,(∀ b:Act,b.tmps.size=af.tmps.size->∀ d,o.dst=some d->(b.put o.dst v).tmps.getD d undef=af.tmps.getD d undef) /\
  (want cv o=false->v=undef)/\(want cv o=true->∀ w,I w->∀ b:Act,(∀ t ∈ rdsOf o,(∃ (j:Nat) (p:Oper),ops[j]?=some p/\loud[j]?=some false/\p.dst=some t)->b.tmps.getD t undef=af.tmps.getD t undef) ->
   (∀ t ∈ rdsOf o,(¬ ∃ (j:Nat) (p:Oper),ops[j]?=some p/\loud[j]?=some false/\p.dst=some t)->b.tmps.getD t undef=a0.tmps.getD t undef)->(execOp b.eval o).run P w=.ok (.value v) w)
theorem evG_ok {cv:Nat->Bool} {I:World->Prop} {ops:List Oper} {loud:List Bool} (hd:DrawGk ops loud) (a0:Act) (K:Act->Prop):∀ (r:List Oper) (m:List Bool) (k:Nat) (a:Act),r.length=m.length ->
  (∀ i,r[i]?=ops[k + i]?)->(∀ i,m[i]?=loud[k + i]?)->(∀ t,(∀ (j:Nat) (p:Oper),j < k->ops[j]?=some p->loud[j]?=some false->p.dst ≠ some t)->a.tmps.getD t undef=a0.tmps.getD t undef) ->
  evG P cv I (qm_ r m) a K ->
  ∃ af,K af/\af.tmps.size=a.tmps.size/\af.defers=a.defers/\(∀ t,(∀ (j:Nat) (p:Oper),k<=j->ops[j]?=some p->loud[j]?=some false->p.dst ≠ some t)->af.tmps.getD t undef=a.tmps.getD t undef) /\
   (∀ (i:Nat) (o:Oper),k<=i->ops[i]?=some o->loud[i]?=some false->∃ v,(∀ b:Act,b.tmps.size=af.tmps.size->∀ d,o.dst=some d->(b.put o.dst v).tmps.getD d undef=af.tmps.getD d undef) /\
    (want cv o=false->v=undef)/\(want cv o=true->∀ w,I w->∀ b:Act,(∀ t ∈ rdsOf o,(∃ (j:Nat) (p:Oper),ops[j]?=some p/\loud[j]?=some false/\p.dst=some t)->b.tmps.getD t undef=af.tmps.getD t undef) ->
     (∀ t ∈ rdsOf o,(¬ ∃ (j:Nat) (p:Oper),ops[j]?=some p/\loud[j]?=some false/\p.dst=some t)->b.tmps.getD t undef=a0.tmps.getD t undef)->(execOp b.eval o).run P w=.ok (.value v) w))
 | [],m,k,a,hl,hr,_,_,h=>by
  obtain rfl:m=[]:=by cases m;rfl;simp at hl
  refine ⟨a,h,rfl,rfl,fun _ _=>rfl,fun i o hi ho=>?_⟩
  have:=hr (i - k)
  rw [show k + (i - k)=i by omega,ho] at this
  simp at this
 | o :: r,l :: m,k,a,hl,hr,hm,ha,h=>by
  have ho:ops[k]?=some o:=by have:=hr 0;simpa using this.symm
  have hlk:loud[k]?=some l:=by have:=hm 0;simpa using this.symm
  have hr':∀ i,r[i]?=ops[k + 1 + i]?:=fun i=>by have:=hr (i + 1);simp only [List.getElem?_cons_succ] at this;rw [this];congr 1;omega
  have hm':∀ i,m[i]?=loud[k + 1 + i]?:=fun i=>by have:=hm (i + 1);simp only [List.getElem?_cons_succ] at this;rw [this];congr 1;omega
  cases l with
  | true=>
   simp only [qm_,if_true] at h
   obtain ⟨af,h1,h2,h3,h4,h5⟩:=evG_ok hd a0 K r m (k + 1) a (by simpa using hl) hr' hm' (fun t ht=>ha t fun j p hj hp hlj=>ht j p (by omega) hp hlj) h
   refine ⟨af,h1,h2,h3,fun t ht=>h4 t fun j p hj=>ht j p (by omega),fun i o' hi ho' hli=>h5 i o' ?_ ho' hli⟩
   rcases Nat.lt_or_ge k i with hk | hk
   ·exact hk
   ·obtain rfl:i=k:=by omega
    rw [hlk] at hli;cases hli
  | false=>
   simp only [qm_] at h
   obtain ⟨v,hu,hv,h⟩:=evG_cons h
   obtain ⟨d,hdst,hself⟩:=hd.hasDst k o ho hlk
   obtain ⟨af,h1,h2,h3,h4,h5⟩:=evG_ok hd a0 K r m (k + 1) (a.put o.dst v) (by simpa using hl) hr' hm' (fun t ht=>by
    rw [qd_ _ _ _ _ (ht k o (by omega) ho hlk)]
    exact ha t fun j p hj hp hlj=>ht j p (by omega) hp hlj) h
   have hsz:(a.put o.dst v).tmps.size=a.tmps.size:=by rw [hdst];simp [Act.put]
   have hdf:(a.put o.dst v).defers=a.defers:=by rw [hdst];rfl
   have hlater:∀ (j:Nat) (p:Oper),k + 1<=j->ops[j]?=some p->loud[j]?=some false->p.dst ≠ some d:=fun j p hj hp hlj hpd=>
    hd.apart j p k o d hp ho (by omega) hdst hlj hpd
   refine ⟨af,h1,h2.trans hsz,h3.trans hdf,fun t ht=>?_,fun i o' hi ho' hli=>?_⟩
   ·rw [h4 t fun j p hj=>ht j p (by omega),qd_ _ _ _ _ (ht k o (Nat.le_refl _) ho hlk)]
   ·rcases Nat.lt_or_ge k i with hk | hk
    ·exact h5 i o' hk ho' hli
    ·obtain rfl:i=k:=by omega
     obtain rfl:o'=o:=Option.some.inj (ho'.symm.trans ho)
     refine ⟨v,fun b hb d' hd'=>?_,hu,fun hwt w hI b hb1 hb2=>?_⟩
     ·obtain rfl:d'=d:=Option.some.inj (hd'.symm.trans hdst)
      rw [h4 d' hlater]
      exact put_agree b a (by rw [hb,h2,hsz]) o'.dst v d' (.inl hdst)
     ·rw [<- hv hwt w hI]
      congr 1
      refine execOp_reads o' (hd.sel i o' ho) b a fun t ht=>?_
      by_cases hex:∃ (j:Nat) (p:Oper),ops[j]?=some p/\loud[j]?=some false/\p.dst=some t
      ·rw [hb1 t ht hex]
       obtain ⟨j,p,hp,hlj,hpd⟩:=hex
       by_cases hij:i=j
       ·subst hij
        obtain rfl:p=o':=Option.some.inj (hp.symm.trans ho)
        obtain rfl:d=t:=Option.some.inj (hdst.symm.trans hpd)
        exact absurd ht hself
       ·rcases hd.reads i o' j p t ho hp hij hpd ht with ⟨_,hji,_⟩ | ⟨hlt,_⟩
        ·rw [h4 t fun j' p' hj' hp' hlj' hpd'=>?_]
         ·rw [qd_ _ _ _ _ (fun e=>?_)]
          exact hd.apart i o' j p t ho hp hij hpd hlk e
         ·have hjj:j' ≠ j:=by omega
          exact hd.apart j' p' j p t hp' hp hjj hpd hlj' hpd'
        ·rw [hlj] at hlt;cases hlt
      ·rw [hb2 t ht hex]
       exact (ha t fun j p hj hp hlj hpd=>hex ⟨j,p,hp,hlj,hpd⟩).symm
 | _ :: _,[],_,_,hl,_,_,_,_=>by simp at hl
theorem loudsG_cons {ops:List Oper} {loud:List Bool} (hl:loud.length=ops.length):∀ (n:Nat),(∃ i o,n<=i/\ops[i]?=some o/\loud[i]?=some true/\(∀ j,n<=j->j < i->loud[j]?=some false) /\
   qq_ n (ops.drop n) (loud.drop n)=(i,o) :: qq_ (i + 1) (ops.drop (i + 1)) (loud.drop (i + 1))) \/
  (qq_ n (ops.drop n) (loud.drop n)=[]/\∀ j,n<=j->loud[j]? ≠ some true):=by
 intro n
 generalize hd:ops.length - n=d
 induction d generalizing n with
 | zero=>
  right
  have h1:ops.drop n=[]:=List.drop_eq_nil_of_le (by omega)
  refine ⟨by rw [h1];simp [qq_],fun j hj=>?_⟩
  rw [List.getElem?_eq_none (by omega)]
  simp
 | succ d ih=>
  have hn:n < ops.length:=by omega
  have hn2:n < loud.length:=by omega
  rw [List.drop_eq_getElem_cons hn,List.drop_eq_getElem_cons hn2]
  have ho:ops[n]?=some ops[n]:=List.getElem?_eq_getElem hn
  have hlo:loud[n]?=some loud[n]:=List.getElem?_eq_getElem hn2
  cases hc:loud[n] with
  | true=>
   left
   refine ⟨n,ops[n],Nat.le_refl _,ho,by rw [hlo,hc],fun j h1 h2=>by omega,?_⟩
   simp [qq_]
  | false=>
   simp only [qq_]
   rcases ih (n + 1) (by omega) with ⟨i,o,h1,h2,h3,h4,h5⟩ | ⟨h1,h2⟩
   ·left
    refine ⟨i,o,by omega,h2,h3,fun j hj hji=>?_,h5⟩
    by_cases e:j=n
    ·subst e;rw [hlo,hc]
    ·exact h4 j (by omega) hji
   ·right
    refine ⟨h1,fun j hj=>?_⟩
    by_cases e:j=n
    ·subst e;rw [hlo,hc];simp
    ·exact h2 j (by omega)
theorem draw_anyG {cv:Nat->Bool} {I:World->Prop} {Q:Exit->Act->World->Prop} {ops:List Oper} {loud:List Bool} (hd:DrawGk ops loud) {a0 af0:Act} (hF:FreeGk P cv I ops loud a0 af0) :
  ∀ (fuel:Nat) (listed:Array Bool) (a af:Act) (w:World) (n:Nat),unl ops.length listed<=fuel->DInv ops loud a0 af n listed a->af.tmps.size=af0.tmps.size ->
   (∀ (i:Nat) (o:Oper) (d:Nat),ops[i]?=some o->loud[i]?=some false->o.dst=some d->af.tmps.getD d undef=af0.tmps.getD d undef) ->
   wpLg P ops cv I Q (qq_ n (ops.drop n) (loud.drop n)) af w->wpAny P .any ops.toArray Q fuel listed a w:=by
 have done:∀ (listed:Array Bool) (a af:Act) (w:World) (n:Nat),DInv ops loud a0 af n listed a->wpLg P ops cv I Q (qq_ n (ops.drop n) (loud.drop n)) af w->Region.ready .any ops.toArray listed=[]->Q .normal a w:=by
  intro listed a af w n inv hw hr
  have all:∀ i,i < ops.length->listed.getD i false=true:=by
   intro i
   induction i using Nat.strongRecOn with
   | _ i ih=>
    intro hi
    cases hc:listed.getD i false with
    | true=>rfl
    | false=>
     exfalso
     have ho:ops[i]?=some ops[i]:=List.getElem?_eq_getElem hi
     have:i ∈ Region.ready .any ops.toArray listed:=by
      rw [mem_ready]
      refine ⟨getD_in (by rw [inv.size];exact hi) hc,ops[i],by simp,fun e he hb=>?_⟩
      have hlt:=hd.lower i _ ho e.on (by unfold ql_;exact Array.any_eq_true'.2 ⟨e,he,by simp [hb]⟩)
      exact ih e.on hlt (by omega)
     rw [hr] at this
     cases this
  have hnone:qq_ n (ops.drop n) (loud.drop n)=[]:=by
   rcases loudsG_cons hd.len n with ⟨i,o,h1,h2,h3,_⟩ | ⟨h1,_⟩
   ·have:=(inv.chain i h3).1 (all i (List.getElem?_eq_some_iff.1 h2).1)
    omega
   ·exact h1
  rw [hnone] at hw
  have e:a=af:=by
   obtain ⟨t1,d1⟩:=a
   obtain ⟨t2,d2⟩:=af
   have e1:d1=d2:=inv.defers
   have e2:t1=t2:=by
    apply Array.ext inv.asz
    intro i h1 h2
    have:=inv.agree i (fun j o ho _ hu=>by rw [all j (List.getElem?_eq_some_iff.1 ho).1] at hu;cases hu)
    simpa [h1,h2] using this
   rw [e1,e2]
  rw [e]
  exact hw.2.2
 intro fuel
 induction fuel with
 | zero=>
  intro listed a af w n hu inv _ _ hw
  have hr:Region.ready .any ops.toArray listed=[]:=by
   cases hr:Region.ready .any ops.toArray listed with
   | nil=>rfl
   | cons i r=>
    have hi:i ∈ Region.ready .any ops.toArray listed:=by rw [hr];exact List.mem_cons_self
    obtain ⟨h1,o,ho,_⟩:=mem_ready.1 hi
    have:=unl_set (n:=ops.length) (List.getElem?_eq_some_iff.1 (by simpa using ho:ops[i]?=some o)).1 inv.size h1
    omega
  exact ⟨hr,done listed a af w n inv hw hr⟩
 | succ fuel ih=>
  intro listed a af w n hu inv hsz hfix hw
  refine ⟨done listed a af w n inv hw,fun i hi=>?_⟩
  obtain ⟨hun,o,ho0,hall⟩:=mem_ready.1 hi
  have ho:ops[i]?=some o:=by simpa using ho0
  have hil:i < ops.length:=(List.getElem?_eq_some_iff.1 ho).1
  have hlt:i < loud.length:=by rw [hd.len];exact hil
  have hu':=unl_set (n:=ops.length) hil inv.size hun
  have hun':=getD_both hun
  have hwait:∀ j,ql_ o j=true->listed.getD j false=true:=by
   intro j hj
   unfold ql_ at hj
   obtain ⟨e,he,hb⟩:=Array.any_eq_true'.1 hj
   simp only [Bool.and_eq_true,beq_iff_eq] at hb
   rw [<- hb.2]
   exact hall e he hb.1
  have hset:∀ j,(listed.setIfInBounds i true).getD j false=true->j=i \/ listed.getD j false=true:=by
   intro j hj
   by_cases e:i=j
   ·exact .inl e.symm
   ·rw [getD_set_ne false e] at hj;exact .inr hj
  have hseti:(listed.setIfInBounds i true).getD i false=true:=by
   have:i < listed.size:=by rw [inv.size];exact hil
   simp [this]
  unfold wpOp
  rw [ho0]
  simp only
  have hyl:∀ j b,o.guard=some (j,b)->yielded ops.toArray a.tmps j=some (cv j):=by
   intro j b hgd
   obtain ⟨hwj,hlj,p,d,hp,hpd,huniq⟩:=hd.guard i o j b ho hgd
   have hjl:=hwait j hwj
   have hjn:=(inv.chain j hlj).1 hjl
   have hmem:j ∈ gsOf ops:=List.mem_filterMap.2 ⟨o,List.mem_of_getElem? ho,by rw [hgd];rfl⟩
   have hgf:yielded ops.toArray af.tmps j=some (cv j):=by
    rcases loudsG_cons hd.len n with ⟨k,o',h1,_,_,_,h5⟩ | ⟨h1,_⟩
    ·rw [h5] at hw
     exact hw.2.1 j hmem (show j < k by omega)
    ·rw [h1] at hw
     exact hw.2.1 j hmem (List.getElem?_eq_some_iff.1 hp).1
   have hag:a.tmps.getD d undef=af.tmps.getD d undef:=inv.agree d fun k q hq hlk _ hqd=>by
    by_cases hkj:k=j
    ·subst hkj;rw [hlj] at hlk;cases hlk
    ·exact huniq k q hq hkj hqd
   have hsz2:=inv.asz
   unfold yielded at hgf ⊢
   have hpa:ops.toArray[j]?=some p:=by simpa using hp
   rw [hpa] at hgf ⊢
   simp only [Option.bind_some,hpd] at hgf ⊢
   have:a.tmps[d]?=af.tmps[d]?:=by
    by_cases hdl:d < a.tmps.size
    ·have hdl2:d < af.tmps.size:=by rw [<- inv.asz];exact hdl
     simp only [Array.getD,hdl,hdl2,dif_pos] at hag
     rw [Array.getElem?_eq_getElem hdl,Array.getElem?_eq_getElem hdl2]
     exact congrArg some hag
    ·rw [Array.getElem?_eq_none (Nat.le_of_not_lt hdl),Array.getElem?_eq_none (by rw [<- inv.asz];exact Nat.le_of_not_lt hdl)]
   rw [this]
   exact hgf
  have hwant:Region.wanted o (yielded ops.toArray a.tmps)=want cv o:=by
   cases hgd:o.guard with
   | none=>simp [Region.wanted,want,hgd]
   | some p=>
    obtain ⟨j,b⟩:=p
    simp [Region.wanted,want,hgd,hyl j b hgd]
  cases hlo:loud[i] with
  | false=>
   have hloi:loud[i]?=some false:=by rw [List.getElem?_eq_getElem hlt,hlo]
   obtain ⟨v,hv1,hvu,hv2⟩:=hF i o ho hloi
   obtain ⟨d,hdst,hself⟩:=hd.hasDst i o ho hloi
   have hrun:want cv o=true->(execOp a.eval o).run P w=.ok (.value v) w:=fun hwt=>by
    refine hv2 hwt w (wpLg_I hw) a (fun t ht hex=>?_) (fun t ht hex=>?_)
    ·obtain ⟨j,p,hp,hlj,hpd⟩:=hex
     have hij:i ≠ j:=fun e=>by
      subst e
      obtain rfl:p=o:=Option.some.inj (hp.symm.trans ho)
      obtain rfl:d=t:=Option.some.inj (hdst.symm.trans hpd)
      exact hself ht
     rcases hd.reads i o j p t ho hp hij hpd ht with ⟨_,_,hwj⟩ | ⟨hltj,_⟩
     ·have hjl:=hwait j hwj
      rw [inv.agree t fun j' p' hp' hlj' huj' hpd'=>?_]
      ·exact hfix j p t hp hlj hpd
      ·by_cases e:j'=j
       ·subst e;rw [hjl] at huj';cases huj'
       ·exact hd.apart j' p' j p t hp' hp e hpd hlj' hpd'
     ·rw [hlj] at hltj;cases hltj
    ·refine inv.orig t fun j p hp hlj hpd=>?_
     by_cases hij:i=j
     ·subst hij;rw [hun'] at hlj;cases hlj
     ·rcases hd.reads i o j p t ho hp hij hpd ht with ⟨h1,_⟩ | ⟨hltj,h2⟩
      ·exact hex ⟨j,p,hp,h1,hpd⟩
      ·rcases h2 with h2 | h2
       ·rw [hloi] at h2;cases h2
       ·have:=inv.closed j p hp hlj i h2
        rw [hun'] at this;cases this
   suffices hnext:wpAny P .any ops.toArray Q fuel (listed.setIfInBounds i true) (a.put o.dst v) w by
    cases hwt:want cv o with
    | true=>
     rw [if_pos (by rw [hwant,hwt])]
     refine .inl ?_
     unfold Oper.wp
     rw [hrun hwt]
     exact hnext
    | false=>
     rw [if_neg (by rw [hwant,hwt];simp)]
     rw [hvu hwt] at hnext
     exact hnext
   refine ih _ _ af w n (by omega) ?_ hsz hfix hw
   have hpsz:(a.put o.dst v).tmps.size=a.tmps.size:=by rw [hdst];simp [Act.put]
   refine ⟨by simp [inv.size],hpsz.trans inv.asz,(by rw [hdst];exact inv.defers),fun j hj=>?_,fun j p hp hlj k hk=>?_,fun t ht=>?_,fun t ht=>?_⟩
   ·have hij:i ≠ j:=fun e=>by subst e;rw [hloi] at hj;cases hj
    rw [getD_set_ne false hij]
    exact inv.chain j hj
   ·rcases hset j hlj with e | e
    ·subst e
     obtain rfl:p=o:=Option.some.inj (hp.symm.trans ho)
     exact getD_set_true (hwait k hk)
    ·exact getD_set_true (inv.closed j p hp e k hk)
   ·by_cases e:d=t
    ·subst e
     rw [hv1 a (inv.asz.trans hsz) d hdst]
     exact (hfix i o d ho hloi hdst).symm
    ·rw [qd_ _ _ _ _ (by rw [hdst];simpa using e)]
     refine inv.agree t fun j p hp hlj huj=>?_
     by_cases e2:i=j
     ·subst e2
      obtain rfl:p=o:=Option.some.inj (hp.symm.trans ho)
      rw [hdst];simpa using e
     ·exact ht j p hp hlj (by rw [getD_set_ne false e2];exact huj)
   ·rw [qd_ _ _ _ _ (ht i o ho hseti)]
    exact inv.orig t fun j p hp hlj=>ht j p hp (getD_set_true hlj)
  | true=>
   have hloi:loud[i]?=some true:=by rw [List.getElem?_eq_getElem hlt,hlo]
   rcases loudsG_cons hd.len n with ⟨k,o',h1,h2,h3,h4,h5⟩ | ⟨_,h2⟩
   ·-- the next of the chain is this one
    have hni:n<=i:=by
     rcases Nat.lt_or_ge i n with h | h
     ·have:=(inv.chain i hloi).2 h
      rw [hun'] at this;cases this
     ·exact h
    have hki:k=i:=by
     rcases Nat.lt_trichotomy k i with h | h | h
     ·exfalso
      have:∀ (m:Nat),∀ q,i - q=m->k<=q->q < i->loud[q]?=some true->False:=by
       intro m
       induction m using Nat.strongRecOn with
       | _ m ihm=>
        intro q hm hkq hqi hq
        rcases hd.chain i o q ho hloi hq hqi with hw1 | ⟨r,hr1,hr2,hr3⟩
        ·have:=(inv.chain q hq).1 (hwait q hw1)
         omega
        ·exact ihm (i - r) (by omega) r rfl (by omega) hr2 hr3
      exact this _ k rfl (Nat.le_refl _) h h3
     ·exact h
     ·have:=h4 i hni h
      rw [hloi] at this;cases this
    subst hki
    obtain rfl:o'=o:=Option.some.inj (h2.symm.trans ho)
    rw [h5] at hw
    have hgo:∀ (ds:List Deferred) (v:Value) (w':World),wpLg P ops cv I Q (qq_ (k + 1) (ops.drop (k + 1)) (loud.drop (k + 1))) (({ af with defers:=ds }:Act).put o'.dst v) w'->wpAny P .any ops.toArray Q fuel (listed.setIfInBounds k true) (({ a with defers:=ds }:Act).put o'.dst v) w':=?hgo
    case hgo=>
     intro ds v w' hk
     refine ih _ _ (({ af with defers:=ds }:Act).put o'.dst v) w' (k + 1) (by omega) ?_ ?_ (fun i' o'' d' hi' hli' hd'=>?_) hk
     ·have hps:∀ (x:Act),(({ x with defers:=ds }:Act).put o'.dst v).tmps.size=x.tmps.size:=fun x=>by cases o'.dst <;> simp [Act.put]
      have hpd:∀ (x:Act),(({ x with defers:=ds }:Act).put o'.dst v).defers=ds:=fun x=>by cases o'.dst <;> rfl
      refine ⟨by simp [inv.size],by rw [hps,hps];exact inv.asz,by rw [hpd,hpd],fun j hj=>?_,fun j p hp hlj q hq=>?_,fun t ht=>?_,fun t ht=>?_⟩
      ·by_cases e:k=j
       ·subst e;rw [hseti];simp
       ·rw [getD_set_ne false e,inv.chain j hj]
        constructor
        ·intro h;omega
        ·intro h
         rcases Nat.lt_or_ge j n with h' | h'
         ·exact h'
         ·have:=h4 j h' (by omega)
          rw [hj] at this;cases this
      ·rcases hset j hlj with e | e
       ·subst e
        obtain rfl:p=o':=Option.some.inj (hp.symm.trans ho)
        exact getD_set_true (hwait q hq)
       ·exact getD_set_true (inv.closed j p hp e q hq)
      ·refine put_agree { a with defers:=ds } { af with defers:=ds } inv.asz o'.dst v t ?_
       by_cases e:o'.dst=some t
       ·exact .inl e
       ·refine .inr (inv.agree t fun j p hp hlj huj=>?_)
        have hij:k ≠ j:=fun e=>by subst e;rw [hloi] at hlj;cases hlj
        exact ht j p hp hlj (by rw [getD_set_ne false hij];exact huj)
      ·rw [qd_ _ _ _ _ (ht k o' ho hseti)]
       exact inv.orig t fun j p hp hlj=>ht j p hp (getD_set_true hlj)
     ·have:(({ af with defers:=ds }:Act).put o'.dst v).tmps.size=af.tmps.size:=by cases o'.dst <;> simp [Act.put]
      exact this.trans hsz
     ·have hij:i' ≠ k:=fun e=>by subst e;rw [hloi] at hli';cases hli'
      rw [qd_ _ _ _ _ (fun e=>hd.apart i' o'' k o' d' hi' ho hij e hli' hd')]
      exact hfix i' o'' d' hi' hli' hd'
    cases hwt:want cv o' with
    | false=>
     rw [if_neg (by rw [hwant,hwt];simp)]
     have h2:=hw.2.2
     rw [if_neg (by rw [hwt];simp)] at h2
     have:=hgo a.defers undef w (by rw [inv.defers];exact h2)
     exact this
    | true=>
    rw [if_pos (by rw [hwant,hwt])]
    refine .inl ?_
    have h2:=hw.2.2
    rw [if_pos hwt] at h2
    refine wp_congr_reads (a:=af) (b:=a) (hd.sel k o' ho) (fun t ht=>?_) inv.defers.symm (fun ds v w' hk=>hgo ds v w' hk) h2
    ·refine (inv.agree t fun j p hp hlj huj hpd=>?_).symm
     have hij:k ≠ j:=fun e=>by subst e;rw [hloi] at hlj;cases hlj
     rcases hd.reads k o' j p t ho hp hij hpd ht with ⟨_,_,hwj⟩ | ⟨hltj,_⟩
     ·rw [hwait j hwj] at huj;cases huj
     ·rw [hlj] at hltj;cases hltj
   ·exfalso
    have hni:n<=i:=by
     rcases Nat.lt_or_ge i n with h | h
     ·have:=(inv.chain i hloi).2 h
      rw [hun'] at this;cases this
     ·exact h
    exact h2 i hni hloi
theorem wp_drawG (hm:P.follows .mixedOrders=true) {id:Nat} {l:List Oper} {loud:List Bool} (cv:Nat->Bool) (hB:drawGB l loud=true) (I:World->Prop) {Q:Exit->Act->World->Prop} {a:Act} {w:World}
  (h:evG P cv I (qm_ l loud) a fun af=>wpLg P l cv I Q (qq_ 0 l loud) af w.drew):(Code.region id l.toArray true).wp P Q a w:=by
 have hd:=drawGB_ok hB
 obtain ⟨af,h1,h2,h3,h4,h5⟩:=evG_ok hd a _ l loud 0 a hd.len.symm (by simp) (by simp) (fun t _=>rfl) h
 refine wp_region_any hm ?_
 refine draw_anyG hd (a0:=a) (af0:=af) (fun i o ho hl=>h5 i o (Nat.zero_le _) ho hl) _ _ a af _ 0 ?_ ?_ rfl (fun _ _ _ _ _ _=>rfl) (by simpa using h1)
 ·unfold unl
  exact Nat.le_trans List.countP_le_length (by simp)
 ·refine ⟨by simp,h2.symm,h3.symm,fun i hi=>?_,fun i o _ hl=>?_,fun t ht=>?_,fun t _=>rfl⟩
  ·rw [getD_replicate_false];simp
  ·rw [getD_replicate_false] at hl;cases hl
  ·exact (h4 t fun j p _ hp hlj=>ht j p hp hlj (getD_replicate_false _ _)).symm
end
def drawXB (ops:List Oper) (loud:List Bool) (iA iB:Nat):Bool:=
 (ops.all fun o=>o.guard.isNone && !isSel o) && loud.length == ops.length && (loud[iA]?).getD false && (loud[iB]?).getD false && decide (iA < iB) &&
 ((List.range ops.length).all fun i=>
  match ops[i]?,loud[i]? with
  | some o,some l=>
   (l || (match o.dst with | some d=>!(rdsOf o).contains d | none=>false)) && (o.after.all fun e=>!Region.binds .any e || decide (e.on < i)) &&
   (!l || decide (i=iA) || decide (iB<=i)) &&
   (!l || decide (i=iA) || decide (i=iB) || ql_ o iA || (List.range ops.length).any fun k=>decide (iB < k) && decide (k < i) && (loud[k]?).getD false) &&
   ((List.range ops.length).all fun j=>
    match ops[j]?,loud[j]? with
    | some p,some m=>
     decide (i=j) ||
     ((match p.dst with
      | some d=>
       (!(rdsOf o).contains d || (!m && decide (j < i) && ql_ o j) || (m && (l || ql_ p i))) &&
       (l || o.dst != some d)
      | none=>true) &&
     (!(l && m && decide (j < i) && decide (iA < j)) || ql_ o j || (List.range ops.length).any fun k=>decide (j < k) && decide (k < i) && (loud[k]?).getD false))
    | _,_=>false)
  | _,_=>false)
def fstI (loud:List Bool):Nat:=(List.range loud.length).find? (fun i=>(loud[i]?).getD false) |>.getD 0
def sndI (loud:List Bool):Nat:=(List.range loud.length).find? (fun i=>(loud[i]?).getD false && decide (fstI loud < i)) |>.getD 0
section
variable {P:Program}
structure DrawX (ops:List Oper) (loud:List Bool) (iA iB:Nat):Prop where
 base:DrawO1 ops loud
 loudA:loud[iA]?=some true
 loudB:loud[iB]?=some true
 lt:iA < iB
 low:∀ i:Nat,loud[i]?=some true->i=iA \/ iB<=i
 third:∀ (i:Nat) (o:Oper),ops[i]?=some o->loud[i]?=some true->i ≠ iA->i ≠ iB->ql_ o iA=true \/ ∃ k:Nat,iB < k/\k < i/\loud[k]?=some true
 chain:∀ (i:Nat) (o:Oper) (j:Nat),ops[i]?=some o->loud[i]?=some true->loud[j]?=some true->iA < j->j < i->ql_ o j=true \/ ∃ k:Nat,j < k/\k < i/\loud[k]?=some true
theorem getD_true {l:List Bool} {k:Nat} (h:(l[k]?).getD false=true):l[k]?=some true:=by
 cases hc:l[k]? with
 | none=>rw [hc] at h;simp at h
 | some x=>rw [hc] at h;simp at h;rw [h]
theorem drawXB_ok {ops:List Oper} {loud:List Bool} {iA iB:Nat} (h:drawXB ops loud iA iB=true):DrawX ops loud iA iB:=by
 simp only [drawXB,Bool.and_eq_true,List.all_eq_true,List.mem_range,beq_iff_eq,decide_eq_true_eq] at h
 obtain ⟨⟨⟨⟨⟨hg,hl⟩,hA⟩,hB⟩,hAB⟩,hh⟩:=h
 have key:∀ (i:Nat) (o:Oper),ops[i]?=some o->∃ l,loud[i]?=some l:=by
  intro i o ho
  have:i < loud.length:=by rw [hl];exact (List.getElem?_eq_some_iff.1 ho).1
  exact ⟨_,List.getElem?_eq_getElem this⟩
 have row:∀ (i:Nat) (o:Oper) (l:Bool),ops[i]?=some o->loud[i]?=some l->_:=fun i o l ho hlo=>by
  have h1:=hh i (List.getElem?_eq_some_iff.1 ho).1
  rw [ho,hlo] at h1
  simp only [Bool.and_eq_true,List.all_eq_true,List.mem_range] at h1
  exact h1
 have cell:∀ (i:Nat) (o:Oper) (l:Bool) (j:Nat) (p:Oper) (m:Bool),ops[i]?=some o->loud[i]?=some l->ops[j]?=some p->loud[j]?=some m->_:=fun i o l j p m ho hlo hp hm=>by
  have h1:=(row i o l ho hlo).2 j (List.getElem?_eq_some_iff.1 hp).1
  rw [hp,hm] at h1
  exact h1
 have opOf:∀ i:Nat,loud[i]?=some true->∃ o,ops[i]?=some o:=fun i hi=>by
  have:i < ops.length:=by rw [<- hl];exact (List.getElem?_eq_some_iff.1 hi).1
  exact ⟨_,List.getElem?_eq_getElem this⟩
 refine ⟨⟨hl,fun i o ho=>?_,fun i o ho hlo=>?_,fun i o ho j hw=>?_,fun i o j p d ho hp hij hd hr=>?_,fun i o j p d ho hp hij hd hlo=>?_⟩,getD_true hA,getD_true hB,hAB,fun i hi=>?_,fun i o ho hi hiA hiB=>?_,fun i o j ho hlo hlj hAj hji=>?_⟩
 ·have:=hg o (List.mem_of_getElem? ho)
  simpa [Option.isNone_iff_eq_none] using this
 ·have:=(row i o false ho hlo).1.1.1.1
  cases hd:o.dst with
  | none=>rw [hd] at this;simp at this
  | some d=>rw [hd] at this;exact ⟨d,rfl,by simpa using this⟩
 ·obtain ⟨l,hlo⟩:=key i o ho
  have h1:=(row i o l ho hlo).1.1.1.2
  unfold ql_ at hw
  obtain ⟨e,he,hb⟩:=Array.any_eq_true'.1 hw
  simp only [Bool.and_eq_true,beq_iff_eq] at hb
  have h2:=Array.all_eq_true'.1 h1 e he
  simp only [hb.1,Bool.not_true,Bool.false_or,decide_eq_true_eq] at h2
  omega
 ·obtain ⟨l,hlo⟩:=key i o ho
  obtain ⟨m,hlm⟩:=key j p hp
  have h1:=cell i o l j p m ho hlo hp hlm
  simp only [hd,hij,decide_false,Bool.false_or,Bool.and_eq_true,Bool.or_eq_true,List.contains_eq_mem,hr,decide_true,Bool.not_true,Bool.not_eq_true',decide_eq_true_eq] at h1
  rcases h1.1.1 with ⟨⟨h2,h3⟩,h4⟩ | ⟨h2,h3⟩
  ·subst h2;exact .inl ⟨hlm,h3,h4⟩
  ·subst h2
   refine .inr ⟨hlm,?_⟩
   rcases h3 with h3 | h3
   ·subst h3;exact .inl hlo
   ·exact .inr h3
 ·obtain ⟨m,hlm⟩:=key j p hp
  have h1:=cell i o false j p m ho hlo hp hlm
  simp only [hd,hij,decide_false,Bool.false_or,Bool.and_eq_true] at h1
  simpa using h1.1.2
 ·obtain ⟨o,ho⟩:=opOf i hi
  have h1:=(row i o true ho hi).1.1.2
  simpa [or_assoc] using h1
 ·have h1:=(row i o true ho hi).1.2
  simp only [Bool.not_true,Bool.false_or,hiA,hiB,decide_false,Bool.or_eq_true] at h1
  rcases h1 with h2 | h2
  ·exact .inl h2
  ·obtain ⟨k,hk,hk2⟩:=List.any_eq_true.1 h2
   simp only [Bool.and_eq_true,decide_eq_true_eq] at hk2
   exact .inr ⟨k,hk2.1.1,hk2.1.2,getD_true hk2.2⟩
 ·have hjl:j < ops.length:=by rw [<- hl];exact (List.getElem?_eq_some_iff.1 hlj).1
  have hp:ops[j]?=some ops[j]:=List.getElem?_eq_getElem hjl
  have h1:=cell i o true j _ true ho hlo hp hlj
  have hij:i ≠ j:=by omega
  simp only [hij,decide_false,Bool.false_or,Bool.and_eq_true,hji,hAj,decide_true,Bool.not_true,Bool.or_eq_true,Bool.true_and] at h1
  rcases h1.2 with h2 | h2
  ·exact .inl h2
  ·obtain ⟨k,hk,hk2⟩:=List.any_eq_true.1 h2
   simp only [Bool.and_eq_true,decide_eq_true_eq] at hk2
   exact .inr ⟨k,hk2.1.1,hk2.1.2,getD_true hk2.2⟩
structure DInvS (ops:List Oper) (loud:List Bool) (a0:Act) (af:Act) (Z:Nat->Prop) (listed:Array Bool) (a:Act):Prop where
 size:listed.size=ops.length
 asz:a.tmps.size=af.tmps.size
 defers:a.defers=af.defers
 chain:∀ i:Nat,loud[i]?=some true->(listed.getD i false=true ↔ Z i)
 closed:∀ (i:Nat) o,ops[i]?=some o->listed.getD i false=true->∀ j,ql_ o j=true->listed.getD j false=true
 agree:∀ t,(∀ (i:Nat) o,ops[i]?=some o->loud[i]?=some false->listed.getD i false=false->o.dst ≠ some t)->a.tmps.getD t undef=af.tmps.getD t undef
 orig:∀ t,(∀ (i:Nat) o,ops[i]?=some o->listed.getD i false=true->o.dst ≠ some t)->a.tmps.getD t undef=a0.tmps.getD t undef
theorem set_or {listed:Array Bool} {i j:Nat} (h:(listed.setIfInBounds i true).getD j false=true):j=i \/ listed.getD j false=true:=by
 by_cases e:i=j
 ·exact .inl e.symm
 ·rw [getD_set_ne false e] at h;exact .inr h
theorem free_step {I:World->Prop} {ops:List Oper} {loud:List Bool} (hd:DrawO1 ops loud) {a0 af0 af a:Act} {Z:Nat->Prop} {listed:Array Bool} {w:World} (inv:DInvS ops loud a0 af Z listed a) (hF:FreeOk P I ops loud a0 af0) (hsz:af.tmps.size=af0.tmps.size)
  (hfix:∀ (i:Nat) (o:Oper) (d:Nat),ops[i]?=some o->loud[i]?=some false->o.dst=some d->af.tmps.getD d undef=af0.tmps.getD d undef)
  {i:Nat} {o:Oper} (ho:ops[i]?=some o) (hun':listed.getD i false=false) (hwait:∀ j,ql_ o j=true->listed.getD j false=true) (hloi:loud[i]?=some false) (hI:I w) :
  ∃ v,(execOp a.eval o).run P w=.ok (.value v) w/\DInvS ops loud a0 af Z (listed.setIfInBounds i true) (a.put o.dst v):=by
 obtain ⟨v,hv1,hv2⟩:=hF i o ho hloi
 obtain ⟨d,hdst,hself⟩:=hd.hasDst i o ho hloi
 refine ⟨v,?_,?_⟩
 ·refine hv2 w hI a (fun t ht hex=>?_) (fun t ht hex=>?_)
  ·obtain ⟨j,p,hp,hlj,hpd⟩:=hex
   have hij:i ≠ j:=fun e=>by
    subst e
    obtain rfl:p=o:=Option.some.inj (hp.symm.trans ho)
    obtain rfl:d=t:=Option.some.inj (hdst.symm.trans hpd)
    exact hself ht
   rcases hd.reads i o j p t ho hp hij hpd ht with ⟨_,_,hwj⟩ | ⟨hltj,_⟩
   ·have hjl:=hwait j hwj
    rw [inv.agree t fun j' p' hp' hlj' huj' hpd'=>?_]
    ·exact hfix j p t hp hlj hpd
    ·by_cases e:j'=j
     ·subst e;rw [hjl] at huj';cases huj'
     ·exact hd.apart j' p' j p t hp' hp e hpd hlj' hpd'
   ·rw [hlj] at hltj;cases hltj
  ·refine inv.orig t fun j p hp hlj hpd=>?_
   by_cases hij:i=j
   ·subst hij;rw [hun'] at hlj;cases hlj
   ·rcases hd.reads i o j p t ho hp hij hpd ht with ⟨h1,_⟩ | ⟨hltj,h2⟩
    ·exact hex ⟨j,p,hp,h1,hpd⟩
    ·rcases h2 with h2 | h2
     ·rw [hloi] at h2;cases h2
     ·have:=inv.closed j p hp hlj i h2
      rw [hun'] at this;cases this
 ·have hpsz:(a.put o.dst v).tmps.size=a.tmps.size:=by rw [hdst];simp [Act.put]
  have hseti:(listed.setIfInBounds i true).getD i false=true:=by
   have:i < listed.size:=by rw [inv.size];exact (List.getElem?_eq_some_iff.1 ho).1
   simp [this]
  refine ⟨by simp [inv.size],hpsz.trans inv.asz,(by rw [hdst];exact inv.defers),fun j hj=>?_,fun j p hp hlj k hk=>?_,fun t ht=>?_,fun t ht=>?_⟩
  ·have hij:i ≠ j:=fun e=>by subst e;rw [hloi] at hj;cases hj
   rw [getD_set_ne false hij]
   exact inv.chain j hj
  ·rcases set_or hlj with e | e
   ·subst e
    obtain rfl:p=o:=Option.some.inj (hp.symm.trans ho)
    exact getD_set_true (hwait k hk)
   ·exact getD_set_true (inv.closed j p hp e k hk)
  ·by_cases e:d=t
   ·subst e
    rw [hv1 a (inv.asz.trans hsz) d hdst]
    exact (hfix i o d ho hloi hdst).symm
   ·rw [qd_ _ _ _ _ (by rw [hdst];simpa using e)]
    refine inv.agree t fun j p hp hlj huj=>?_
    by_cases e2:i=j
    ·subst e2
     obtain rfl:p=o:=Option.some.inj (hp.symm.trans ho)
     rw [hdst];simpa using e
    ·exact ht j p hp hlj (by rw [getD_set_ne false e2];exact huj)
  ·rw [qd_ _ _ _ _ (ht i o ho hseti)]
   exact inv.orig t fun j p hp hlj=>ht j p hp (getD_set_true hlj)
theorem loud_step {ops:List Oper} {loud:List Bool} (hd:DrawO1 ops loud) {a0 af0 af a:Act} {Z Z':Nat->Prop} {listed:Array Bool} {w:World} (inv:DInvS ops loud a0 af Z listed a) (hsz:af.tmps.size=af0.tmps.size)
  (hfix:∀ (i:Nat) (o:Oper) (d:Nat),ops[i]?=some o->loud[i]?=some false->o.dst=some d->af.tmps.getD d undef=af0.tmps.getD d undef)
  {k:Nat} {o:Oper} (ho:ops[k]?=some o) (hwait:∀ j,ql_ o j=true->listed.getD j false=true) (hloi:loud[k]?=some true) (hZ:∀ j,loud[j]?=some true->(Z' j ↔ j=k \/ Z j)) {K K':Act->World->Prop} {Q':Exit->Act->World->Prop}
  (hK:∀ (af' a':Act) (w':World),DInvS ops loud a0 af' Z' (listed.setIfInBounds k true) a'->af'.tmps.size=af0.tmps.size->(∀ (i:Nat) (o:Oper) (d:Nat),ops[i]?=some o->loud[i]?=some false->o.dst=some d->af'.tmps.getD d undef=af0.tmps.getD d undef)->K af' w'->K' a' w')
  (h:o.wp P af w K (fun _ _ _=>False)):o.wp P a w K' Q':=by
 have hseti:(listed.setIfInBounds k true).getD k false=true:=by
  have:k < listed.size:=by rw [inv.size];exact (List.getElem?_eq_some_iff.1 ho).1
  simp [this]
 refine wp_congr_reads (a:=af) (b:=a) (hd.guard k o ho).2 (fun t ht=>?_) inv.defers.symm (fun ds v w' hk=>?_) h
 ·refine (inv.agree t fun j p hp hlj huj hpd=>?_).symm
  have hij:k ≠ j:=fun e=>by subst e;rw [hloi] at hlj;cases hlj
  rcases hd.reads k o j p t ho hp hij hpd ht with ⟨_,_,hwj⟩ | ⟨hltj,_⟩
  ·rw [hwait j hwj] at huj;cases huj
  ·rw [hlj] at hltj;cases hltj
 ·refine hK (({ af with defers:=ds }:Act).put o.dst v) _ w' ?_ ?_ (fun i' o'' d' hi' hli' hd'=>?_) hk
  ·have hps:∀ (x:Act),(({ x with defers:=ds }:Act).put o.dst v).tmps.size=x.tmps.size:=fun x=>by cases o.dst <;> simp [Act.put]
   have hpd:∀ (x:Act),(({ x with defers:=ds }:Act).put o.dst v).defers=ds:=fun x=>by cases o.dst <;> rfl
   refine ⟨by simp [inv.size],by rw [hps,hps];exact inv.asz,by rw [hpd,hpd],fun j hj=>?_,fun j p hp hlj q hq=>?_,fun t ht=>?_,fun t ht=>?_⟩
   ·rw [hZ j hj]
    by_cases e:k=j
    ·subst e;rw [hseti];simp
    ·rw [getD_set_ne false e,inv.chain j hj]
     exact ⟨.inr,fun h=>h.resolve_left fun h=>e h.symm⟩
   ·rcases set_or hlj with e | e
    ·subst e
     obtain rfl:p=o:=Option.some.inj (hp.symm.trans ho)
     exact getD_set_true (hwait q hq)
    ·exact getD_set_true (inv.closed j p hp e q hq)
   ·refine put_agree { a with defers:=ds } { af with defers:=ds } inv.asz o.dst v t ?_
    by_cases e:o.dst=some t
    ·exact .inl e
    ·refine .inr (inv.agree t fun j p hp hlj huj=>?_)
     have hij:k ≠ j:=fun e=>by subst e;rw [hloi] at hlj;cases hlj
     exact ht j p hp hlj (by rw [getD_set_ne false hij];exact huj)
   ·rw [qd_ _ _ _ _ (ht k o ho hseti)]
    exact inv.orig t fun j p hp hlj=>ht j p hp (getD_set_true hlj)
  ·have:(({ af with defers:=ds }:Act).put o.dst v).tmps.size=af.tmps.size:=by cases o.dst <;> simp [Act.put]
   exact this.trans hsz
  ·have hij:i' ≠ k:=fun e=>by subst e;rw [hloi] at hli';cases hli'
   rw [qd_ _ _ _ _ (fun e=>hd.apart i' o'' k o d' hi' ho hij e hli' hd')]
   exact hfix i' o'' d' hi' hli' hd'
inductive Stg where | both | onlyB | from (n:Nat)
def Stg.Z (iB:Nat):Stg->Nat->Prop
 | .both,_=>False
 | .onlyB,i=>i=iB
 | .from n,i=>i < n
def Stg.W (P:Program) (I:World->Prop) (Q:Exit->Act->World->Prop) (ops:List Oper) (loud:List Bool) (A B:Oper) (iB:Nat):Stg->Act->World->Prop
 | .both,a,w=>wpLd P I Q (A :: B :: qc_ (ops.drop (iB + 1)) (loud.drop (iB + 1))) a w/\wpLd P I Q (B :: A :: qc_ (ops.drop (iB + 1)) (loud.drop (iB + 1))) a w
 | .onlyB,a,w=>wpLd P I Q (A :: qc_ (ops.drop (iB + 1)) (loud.drop (iB + 1))) a w
 | .from n,a,w=>wpLd P I Q (qc_ (ops.drop n) (loud.drop n)) a w
theorem Stg.W_I {I:World->Prop} {Q:Exit->Act->World->Prop} {ops:List Oper} {loud:List Bool} {A B:Oper} {iB:Nat} {s:Stg} {a:Act} {w:World} (h:s.W P I Q ops loud A B iB a w):I w:=by
 cases s with
 | both=>exact wpLd_I h.1
 | onlyB=>exact wpLd_I h
 | «from» n=>exact wpLd_I h
theorem draw_anyX {I:World->Prop} {Q:Exit->Act->World->Prop} {ops:List Oper} {loud:List Bool} {iA iB:Nat} (hx:DrawX ops loud iA iB) {A B:Oper} (hA:ops[iA]?=some A) (hB:ops[iB]?=some B) {a0 af0:Act} (hF:FreeOk P I ops loud a0 af0) :
  ∀ (fuel:Nat) (listed:Array Bool) (a af:Act) (w:World) (s:Stg),unl ops.length listed<=fuel->DInvS ops loud a0 af (s.Z iB) listed a->af.tmps.size=af0.tmps.size ->
   (∀ (i:Nat) (o:Oper) (d:Nat),ops[i]?=some o->loud[i]?=some false->o.dst=some d->af.tmps.getD d undef=af0.tmps.getD d undef)->(∀ n,s=.from n->iA < n) ->
   s.W P I Q ops loud A B iB af w->wpAny P .any ops.toArray Q fuel listed a w:=by
 have hd:=hx.base
 have done:∀ (listed:Array Bool) (a af:Act) (w:World) (s:Stg),DInvS ops loud a0 af (s.Z iB) listed a->s.W P I Q ops loud A B iB af w->Region.ready .any ops.toArray listed=[]->Q .normal a w:=by
  intro listed a af w s inv hw hr
  have all:∀ i,i < ops.length->listed.getD i false=true:=by
   intro i
   induction i using Nat.strongRecOn with
   | _ i ih=>
    intro hi
    cases hc:listed.getD i false with
    | true=>rfl
    | false=>
     exfalso
     have ho:ops[i]?=some ops[i]:=List.getElem?_eq_getElem hi
     have:i ∈ Region.ready .any ops.toArray listed:=by
      rw [mem_ready]
      refine ⟨getD_in (by rw [inv.size];exact hi) hc,ops[i],by simp,fun e he hb=>?_⟩
      have hlt:=hd.lower i _ ho e.on (by unfold ql_;exact Array.any_eq_true'.2 ⟨e,he,by simp [hb]⟩)
      exact ih e.on hlt (by omega)
     rw [hr] at this
     cases this
  have hAl:=(inv.chain iA hx.loudA).1 (all iA (List.getElem?_eq_some_iff.1 hA).1)
  have hlt:=hx.lt
  cases s with
  | both=>exact hAl.elim
  | onlyB=>have:iA=iB:=hAl;omega
  | «from» n=>
   have hw:wpLd P I Q (qc_ (ops.drop n) (loud.drop n)) af w:=hw
   have hnone:qc_ (ops.drop n) (loud.drop n)=[]:=by
    rcases qg_ hd.len n with ⟨i,o,h1,h2,h3,_⟩ | ⟨h1,_⟩
    ·have:i < n:=(inv.chain i h3).1 (all i (List.getElem?_eq_some_iff.1 h2).1)
     omega
    ·exact h1
   rw [hnone] at hw
   have e:a=af:=by
    obtain ⟨t1,d1⟩:=a
    obtain ⟨t2,d2⟩:=af
    have e1:d1=d2:=inv.defers
    have e2:t1=t2:=by
     apply Array.ext inv.asz
     intro i h1 h2
     have:=inv.agree i (fun j o ho _ hu=>by rw [all j (List.getElem?_eq_some_iff.1 ho).1] at hu;cases hu)
     simpa [h1,h2] using this
    rw [e1,e2]
   rw [e]
   exact hw.2
 have late:∀ (listed:Array Bool) (i:Nat) (o:Oper),ops[i]?=some o->loud[i]?=some true->(∀ j,ql_ o j=true->listed.getD j false=true)->i ≠ iA->i ≠ iB->listed.getD iA false=true \/ ∃ q,iB < q/\loud[q]?=some true/\q < i/\listed.getD q false=true:=by
  intro listed i o ho hlo hwait hiA hiB
  rcases hx.third i o ho hlo hiA hiB with h | ⟨k,h1,h2,h3⟩
  ·exact .inl (hwait iA h)
  ·right
   have:∀ (m:Nat),∀ q,i - q=m->iB < q->q < i->loud[q]?=some true->∃ q,iB < q/\loud[q]?=some true/\q < i/\listed.getD q false=true:=by
    intro m
    induction m using Nat.strongRecOn with
    | _ m ihm=>
     intro q hm hkq hqi hq
     have hlt:=hx.lt
     rcases hx.chain i o q ho hlo hq (by omega) hqi with hw1 | ⟨r,hr1,hr2,hr3⟩
     ·exact ⟨q,hkq,hq,hqi,hwait q hw1⟩
     ·exact ihm (i - r) (by omega) r rfl (by omega) hr2 hr3
   exact this _ k rfl h1 h2 h3
 intro fuel
 induction fuel with
 | zero=>
  intro listed a af w s hu inv _ _ _ hw
  have hr:Region.ready .any ops.toArray listed=[]:=by
   cases hr:Region.ready .any ops.toArray listed with
   | nil=>rfl
   | cons i r=>
    have hi:i ∈ Region.ready .any ops.toArray listed:=by rw [hr];exact List.mem_cons_self
    obtain ⟨h1,o,ho,_⟩:=mem_ready.1 hi
    have:=unl_set (n:=ops.length) (List.getElem?_eq_some_iff.1 (by simpa using ho:ops[i]?=some o)).1 inv.size h1
    omega
  exact ⟨hr,done listed a af w s inv hw hr⟩
 | succ fuel ih=>
  intro listed a af w s hu inv hsz hfix hsn hw
  refine ⟨done listed a af w s inv hw,fun i hi=>?_⟩
  obtain ⟨hun,o,ho0,hall⟩:=mem_ready.1 hi
  have ho:ops[i]?=some o:=by simpa using ho0
  have hil:i < ops.length:=(List.getElem?_eq_some_iff.1 ho).1
  have hlt:i < loud.length:=by rw [hd.len];exact hil
  have hu':=unl_set (n:=ops.length) hil inv.size hun
  have hun':=getD_both hun
  have hAB:=hx.lt
  have hwait:∀ j,ql_ o j=true->listed.getD j false=true:=by
   intro j hj
   unfold ql_ at hj
   obtain ⟨e,he,hb⟩:=Array.any_eq_true'.1 hj
   simp only [Bool.and_eq_true,beq_iff_eq] at hb
   rw [<- hb.2]
   exact hall e he hb.1
  unfold wpOp
  rw [ho0]
  simp only
  rw [if_pos (by simp [Region.wanted,(hd.guard i o ho).1])]
  refine .inl ?_
  cases hlo:loud[i] with
  | false=>
   have hloi:loud[i]?=some false:=by rw [List.getElem?_eq_getElem hlt,hlo]
   obtain ⟨v,hrun,inv2⟩:=free_step hd inv hF hsz hfix ho hun' hwait hloi (Stg.W_I hw)
   unfold Oper.wp
   rw [hrun]
   exact ih _ _ af w s (by omega) inv2 hsz hfix hsn hw
  | true=>
   have hloi:loud[i]?=some true:=by rw [List.getElem?_eq_getElem hlt,hlo]
   cases s with
   | both=>
    have hnl:∀ q:Nat,loud[q]?=some true->listed.getD q false ≠ true:=fun q hq h=>(inv.chain q hq).1 h
    by_cases eA:i=iA
    ·subst eA
     obtain rfl:o=A:=Option.some.inj (ho.symm.trans hA)
     refine loud_step hd (Z':=Stg.Z iB (.from (i + 1))) inv hsz hfix ho hwait hloi (fun j hj=>?_) (fun af' a' w' inv2 hsz2 hfix2 hk=>?_) hw.1.2
     ·have:=hx.low j hj
      simp only [Stg.Z,or_false]
      omega
     ·refine ih _ a' af' w' (.from (i + 1)) (by omega) inv2 hsz2 hfix2 (fun n hn=>by cases hn;omega) ?_
      show wpLd P I Q (qc_ (ops.drop (i + 1)) (loud.drop (i + 1))) af' w'
      rcases qg_ hd.len (i + 1) with ⟨k,o',h1,h2,h3,h4,h5⟩ | ⟨_,h2⟩
      ·have hk2:k=iB:=by
        rcases hx.low k h3 with h | h
        ·omega
        ·rcases Nat.lt_or_ge iB k with h' | h'
         ·have:=h4 iB (by omega) h'
          rw [hx.loudB] at this;cases this
         ·omega
       subst hk2
       obtain rfl:o'=B:=Option.some.inj (h2.symm.trans hB)
       rw [h5];exact hk
      ·exact absurd hx.loudB (h2 iB (by omega))
    ·by_cases eB:i=iB
     ·subst eB
      obtain rfl:o=B:=Option.some.inj (ho.symm.trans hB)
      refine loud_step hd (Z':=Stg.Z i .onlyB) inv hsz hfix ho hwait hloi (fun j hj=>?_) (fun af' a' w' inv2 hsz2 hfix2 hk=>?_) hw.2.2
      ·simp only [Stg.Z,or_false]
      ·exact ih _ a' af' w' .onlyB (by omega) inv2 hsz2 hfix2 (fun n hn=>by cases hn) hk
     ·exfalso
      rcases late listed i o ho hloi hwait eA eB with h | ⟨q,_,h2,_,h3⟩
      ·exact hnl iA hx.loudA h
      ·exact hnl q h2 h3
   | onlyB=>
    by_cases eA:i=iA
    ·subst eA
     obtain rfl:o=A:=Option.some.inj (ho.symm.trans hA)
     have hw:wpLd P I Q (o :: qc_ (ops.drop (iB + 1)) (loud.drop (iB + 1))) af w:=hw
     refine loud_step hd (Z':=Stg.Z iB (.from (iB + 1))) inv hsz hfix ho hwait hloi (fun j hj=>?_) (fun af' a' w' inv2 hsz2 hfix2 hk=>?_) hw.2
     ·have:=hx.low j hj
      simp only [Stg.Z]
      omega
     ·exact ih _ a' af' w' (.from (iB + 1)) (by omega) inv2 hsz2 hfix2 (fun n hn=>by cases hn;omega) hk
    ·exfalso
     have eB:i ≠ iB:=fun e=>by
      have:=(inv.chain i hloi).2 e
      rw [hun'] at this;cases this
     rcases late listed i o ho hloi hwait eA eB with h | ⟨q,h1,h2,_,h3⟩
     ·have:iA=iB:=(inv.chain iA hx.loudA).1 h
      omega
     ·have:q=iB:=(inv.chain q h2).1 h3
      omega
   | «from» n=>
    have hAn:=hsn n rfl
    have hw:wpLd P I Q (qc_ (ops.drop n) (loud.drop n)) af w:=hw
    have hni:n<=i:=by
     rcases Nat.lt_or_ge i n with h | h
     ·have:=(inv.chain i hloi).2 h
      rw [hun'] at this;cases this
     ·exact h
    rcases qg_ hd.len n with ⟨k,o',h1,h2,h3,h4,h5⟩ | ⟨_,h2⟩
    ·have hki:k=i:=by
      rcases Nat.lt_trichotomy k i with h | h | h
      ·exfalso
       have:∀ (m:Nat),∀ q,i - q=m->k<=q->q < i->loud[q]?=some true->False:=by
        intro m
        induction m using Nat.strongRecOn with
        | _ m ihm=>
         intro q hm hkq hqi hq
         rcases hx.chain i o q ho hloi hq (by omega) hqi with hw1 | ⟨r,hr1,hr2,hr3⟩
         ·have:q < n:=(inv.chain q hq).1 (hwait q hw1)
          omega
         ·exact ihm (i - r) (by omega) r rfl (by omega) hr2 hr3
       exact this _ k rfl (Nat.le_refl _) h h3
      ·exact h
      ·have:=h4 i hni h
       rw [hloi] at this;cases this
     subst hki
     obtain rfl:o'=o:=Option.some.inj (h2.symm.trans ho)
     rw [h5] at hw
     refine loud_step hd (Z':=Stg.Z iB (.from (k + 1))) inv hsz hfix ho hwait hloi (fun j hj=>?_) (fun af' a' w' inv2 hsz2 hfix2 hk=>?_) hw.2
     ·show j < k + 1 ↔ j=k \/ j < n
      constructor
      ·intro h
       rcases Nat.lt_or_ge j n with h' | h'
       ·exact .inr h'
       ·rcases Nat.lt_or_ge j k with h'' | h''
        ·have:=h4 j h' h''
         rw [hj] at this;cases this
        ·exact .inl (by omega)
      ·omega
     ·exact ih _ a' af' w' (.from (k + 1)) (by omega) inv2 hsz2 hfix2 (fun n' hn=>by cases hn;omega) hk
    ·exact absurd hloi (h2 i hni)
theorem wp_drawX (hm:P.follows .mixedOrders=true) {id:Nat} {l:List Oper} {loud:List Bool} {iA iB:Nat} (hx:drawXB l loud iA iB=true) (I:World->Prop) {Q:Exit->Act->World->Prop} {a:Act} {w:World} {A B:Oper} {r:List Oper} (hlo:qc_ l loud=A :: B :: r)
  (h:evF P I (qm_ l loud) a fun af=>wpLd P I Q (A :: B :: r) af w.drew/\wpLd P I Q (B :: A :: r) af w.drew):(Code.region id l.toArray true).wp P Q a w:=by
 have hX:=drawXB_ok hx
 have hd:=hX.base
 obtain ⟨af,h1,h2,h3,h4,h5⟩:=evF_ok hd a _ l loud 0 a hd.len.symm (by simp) (by simp) (fun t _=>rfl) h
 have hlt:=hX.lt
 obtain ⟨hA,hB,hr⟩:l[iA]?=some A/\l[iB]?=some B/\qc_ (l.drop (iB + 1)) (loud.drop (iB + 1))=r:=by
  rcases qg_ hd.len 0 with ⟨i,o,a1,a2,a3,a4,a5⟩ | ⟨_,a2⟩
  ·have e1:i=iA:=by
    rcases hX.low i a3 with e | e
    ·exact e
    ·have:=a4 iA (by omega) (by omega)
     rw [hX.loudA] at this;cases this
   subst e1
   rcases qg_ hd.len (i + 1) with ⟨j,o2,b1,b2,b3,b4,b5⟩ | ⟨_,b2⟩
   ·have e2:j=iB:=by
     rcases hX.low j b3 with e | e
     ·omega
     ·rcases Nat.lt_or_ge iB j with h' | h'
      ·have:=b4 iB (by omega) h'
       rw [hX.loudB] at this;cases this
      ·omega
    subst e2
    simp only [List.drop_zero] at a5
    rw [b5] at a5
    rw [a5] at hlo
    simp only [List.cons.injEq] at hlo
    obtain ⟨rfl,rfl,rfl⟩:=hlo
    exact ⟨a2,b2,rfl⟩
   ·exact absurd hX.loudB (b2 iB (by omega))
  ·exact absurd hX.loudA (a2 iA (by omega))
 subst hr
 refine wp_region_any hm ?_
 refine draw_anyX hX hA hB (a0:=a) (af0:=af) (fun i o ho hl=>h5 i o (Nat.zero_le _) ho hl) _ _ a af _ .both ?_ ?_ rfl (fun _ _ _ _ _ _=>rfl) (fun n hn=>by cases hn) h1
 ·unfold unl
  exact Nat.le_trans List.countP_le_length (by simp)
 ·refine ⟨by simp,h2.symm,h3.symm,fun i hi=>?_,fun i o _ hl=>?_,fun t ht=>?_,fun t _=>rfl⟩
  ·rw [getD_replicate_false];simp [Stg.Z]
  ·rw [getD_replicate_false] at hl;cases hl
  ·exact (h4 t fun j p _ hp hlj=>ht j p hp hlj (getD_replicate_false _ _)).symm
end
def nOp:Op->Op
 | .call c=>.call { c with argTypes:=match c.callee with | .builtin _=>c.argTypes | _=>#[] }
 | .binOp o t x y _=>.binOp o t x y 0
 | o=>o
def nTy:Op->TypeId->TypeId
 | .call c,t=>match c.callee with | .builtin _=>t | _=>0
 | .next ..,t=>t
 | .go _,t=>t
 | .defer _,t=>t
 | _,_=>0
def qh_ (o : Oper) : Oper := { dst := o.dst, op := nOp o.op, type := nTy o.op o.type, pos := "", after := #[], guard := o.guard }
theorem execOp_nOper (ρ:Operand->Value) (o:Oper):execOp ρ (qh_ o)=execOp ρ o:=by
 obtain ⟨dst,op,type,pos,after,guard⟩:=o
 cases op <;> try rfl
 case call c=>
  obtain ⟨callee,args,argTypes⟩:=c
  cases callee <;> rfl
theorem nOper_dst (o:Oper):(qh_ o).dst=o.dst:=rfl
theorem nOper_upon (P:Program) (o:Oper) (a:Act) (K:Act->World->Prop) (Q:Exit->Act->World->Prop) (r:Result Next) :
  (qh_ o).upon P a K Q r=o.upon P a K Q r:=by
 cases r with
 | ok x w=>cases x <;> rfl
 | halt h w=>cases h <;> rfl
theorem nOper_wp (P:Program) (o:Oper) (a:Act) (w:World) (K:Act->World->Prop) (Q:Exit->Act->World->Prop) :
  (qh_ o).wp P a w K Q=o.wp P a w K Q:=by
 unfold Oper.wp
 rw [execOp_nOper,nOper_upon]
theorem nOper_asks (P:Program) (o:Oper) (a:Act) (w:World):(qh_ o).asks P a w=o.asks P a w:=by
 unfold Oper.asks
 rw [execOp_nOper]
theorem yielded_nOper (ops:Array Oper) (tmps:Array Value):yielded (ops.toList.map qh_).toArray tmps=yielded ops tmps:=by
 funext j
 have h:((ops.toList.map qh_).toArray[j]?).bind (·.dst)=(ops[j]?).bind (·.dst):=by
  simp only [List.getElem?_toArray,List.getElem?_map,Array.getElem?_toList]
  cases ops[j]? <;> rfl
 unfold yielded
 rw [h]
theorem wanted_nOper (o:Oper) (y:Nat->Option Bool):Region.wanted (qh_ o) y=Region.wanted o y:=rfl
theorem wpList_nOper (P:Program) (ops:Array Oper) (Q:Exit->Act->World->Prop) (l:List Oper) :
  wpList P (ops.toList.map qh_).toArray Q (l.map qh_)=wpList P ops Q l:=by
 induction l with
 | nil=>rfl
 | cons o r ih=>
  funext a w
  simp only [List.map_cons,wpList,wanted_nOper,yielded_nOper,nOper_wp,nOper_asks,nOper_dst,ih]
theorem rdsOf_nOper (o:Oper):rdsOf (qh_ o)=rdsOf o:=by
 obtain ⟨dst,op,type,pos,after,guard⟩:=o
 cases op <;> try rfl
theorem acts_nOper (o:Oper):acts (qh_ o)=acts o:=by
 obtain ⟨dst,op,type,pos,after,guard⟩:=o
 cases op <;> try rfl
theorem loudOf_nOper (l:List Oper):qp_ (l.map qh_)=qp_ l:=by
 unfold qp_
 rw [List.foldl_map]
 congr 1
 funext acc o
 rw [acts_nOper]
 congr 2
 congr 1
 have:acc.zip (l.map qh_)=(acc.zip l).map (fun p=>(p.1,qh_ p.2)):=by rw [List.zip_map_right];rfl
 rw [this,List.any_map]
 congr 1
 funext p
 simp only [Function.comp,nOper_dst,rdsOf_nOper]
theorem qs_:∀ (l:List Oper) (m:List Bool),qm_ (l.map qh_) m=(qm_ l m).map qh_
 | [],_=>rfl
 | _ :: _,[]=>rfl
 | o :: r,b :: m=>by cases b <;> simp [qm_,qs_ r m]
theorem loudsOf_nOper:∀ (l:List Oper) (m:List Bool),qc_ (l.map qh_) m=(qc_ l m).map qh_
 | [],_=>rfl
 | _ :: _,[]=>rfl
 | o :: r,b :: m=>by cases b <;> simp [qc_,loudsOf_nOper r m]
theorem evF_nOper (P:Program) (I:World->Prop):∀ (l:List Oper) (a:Act) (K:Act->Prop),evF P I (l.map qh_) a K=evF P I l a K
 | [],_,_=>rfl
 | o :: r,a,K=>by
  simp only [List.map_cons,evF,execOp_nOper,nOper_dst,evF_nOper P I r]
theorem wpLd_nOper (P:Program) (I:World->Prop) (Q:Exit->Act->World->Prop):∀ (l:List Oper),wpLd P I Q (l.map qh_)=wpLd P I Q l
 | []=>rfl
 | o :: r=>by
  funext a w
  simp only [List.map_cons,wpLd,nOper_wp,wpLd_nOper P I Q r]
theorem wpLq_nOper (P:Program) (I:World->Prop) (Q:Exit->Act->World->Prop):∀ (l:List Oper),wpLq P I Q (l.map qh_)=wpLq P I Q l
 | []=>rfl
 | o :: r=>by
  funext a w
  simp only [List.map_cons,wpLq,nOper_wp,wpLq_nOper P I Q r]
theorem evG_nOper (P:Program) (cv:Nat->Bool) (I:World->Prop):∀ (l:List Oper) (a:Act) (K:Act->Prop),evG P cv I (l.map qh_) a K=evG P cv I l a K
 | [],_,_=>rfl
 | o :: r,a,K=>by
  simp only [List.map_cons,evG,execOp_nOper,nOper_dst,evG_nOper P cv I r]
  rfl
theorem loudsG_nOper:∀ (k:Nat) (l:List Oper) (m:List Bool),qq_ k (l.map qh_) m=(qq_ k l m).map fun p=>(p.1,qh_ p.2)
 | _,[],_=>by simp [qq_]
 | _,_ :: _,[]=>by simp [qq_]
 | k,o :: r,b :: m=>by
  simp only [List.map_cons,qq_,loudsG_nOper (k + 1) r m]
  cases b <;> simp
theorem gsOf_nOper (l:List Oper):gsOf (l.map qh_)=gsOf l:=by
 simp only [gsOf,List.filterMap_map]
 rfl
theorem GdAt_nOper (ops:Array Oper) (cv:Nat->Bool) (i:Nat) (a:Act):GdAt (ops.toList.map qh_) cv i a=GdAt ops.toList cv i a:=by
 simp only [GdAt,gsOf_nOper,yielded_nOper]
theorem wpLg_nOper (P:Program) (ops:Array Oper) (cv:Nat->Bool) (I:World->Prop) (Q:Exit->Act->World->Prop):∀ (L:List (Nat × Oper)),wpLg P (ops.toList.map qh_) cv I Q (L.map fun p=>(p.1,qh_ p.2))=wpLg P ops.toList cv I Q L
 | []=>by
  funext a w
  simp only [List.map_nil,wpLg,GdAt_nOper,List.length_map]
 | (i,o) :: r=>by
  funext a w
  simp only [List.map_cons,wpLg,GdAt_nOper,nOper_wp,nOper_dst,wpLg_nOper P ops cv I Q r]
  rfl
def gcalls (ops:List Oper):Nat:=(ops.filter fun o=>o.guard.isSome && acts o).length
def rowFst (ops:List Oper):Bool:=match ops[fstI (qp_ ops)]? with | some o=>(match o.op with | .buildSlice ..=>true | _=>false) | none=>false
def markOf (d:Bool) (ops:Array Oper):Nat:=if d then (if drawB ops.toList (qp_ ops.toList) then (if lastB ops.toList (qp_ ops.toList) then 3 else 1) else if decide (3<=gcalls ops.toList) && drawGB ops.toList (qp_ ops.toList) then 4 else if rowFst ops.toList && drawXB ops.toList (qp_ ops.toList) (fstI (qp_ ops.toList)) (sndI (qp_ ops.toList)) then 5 else if Region.lexB .any ops then 2 else 0) else 0
theorem quiet_nOper (P:Program) (o:Oper) (a:Act) (C:World->Prop) (K:Act->Prop):(qh_ o).quiet P a C K=o.quiet P a C K:=by
 unfold Oper.quiet Oper.quietAt
 rw [execOp_nOper,nOper_dst]
theorem wpQuiet_nOper (P:Program) (ops:Array Oper) (C:World->Prop) (Q:Act->Prop):∀ (l:List Oper),wpQuiet P (ops.toList.map qh_).toArray C Q (l.map qh_)=wpQuiet P ops C Q l
 | []=>rfl
 | o :: r=>by
  funext a
  simp only [List.map_cons,wpQuiet,wanted_nOper,yielded_nOper,quiet_nOper,nOper_dst,wpQuiet_nOper P ops C Q r]
def qi_:Code->Code
 | .region _ ops d=>.region (markOf d ops) (ops.toList.map qh_).toArray d
 | .seq a b=>.seq (qi_ a) (qi_ b)
 | .cond c x y=>.cond c (qi_ x) (qi_ y)
 | .block id c=>.block id (qi_ c)
 | .loop c=>.loop (qi_ c)
 | .scope c=>.scope (qi_ c)
 | .rangeFunc .. => .refuse ""
 | c=>c
inductive NWP (P:Program):Code->(Exit->Act->World->Prop)->Act->World->Prop
 | skip {Q:Exit->Act->World->Prop} {a:Act} {w:World}:Q .normal a w->NWP P .skip Q a w
 | label {l:Nat} {Q:Exit->Act->World->Prop} {a:Act} {w:World}:Q .normal a w->NWP P (.label l) Q a w
 | exit {id:Nat} {Q:Exit->Act->World->Prop} {a:Act} {w:World}:Q (.exit id) a w->NWP P (.exit id) Q a w
 | goto {l:Nat} {Q:Exit->Act->World->Prop} {a:Act} {w:World}:Q (.goto l) a w->NWP P (.goto l) Q a w
 | ret {Q:Exit->Act->World->Prop} {a:Act} {w:World}:Q .ret a w->NWP P .ret Q a w
 | reg {id:Nat} {l:List Oper} {Q:Exit->Act->World->Prop} {a:Act} {w:World}:wpList P l.toArray Q l a w->NWP P (.region id l.toArray false) Q a w
 | drw {l:List Oper} {Q:Exit->Act->World->Prop} {a:Act} {w:World} (I:World->Prop) :
   evF P I (qm_ l (qp_ l)) a (fun af=>wpLd P I Q (qc_ l (qp_ l)) af w.drew)->NWP P (.region 1 l.toArray true) Q a w
 | drl {l:List Oper} {Q:Exit->Act->World->Prop} {a:Act} {w:World} (I:World->Prop) :
   evF P I (qm_ l (qp_ l)) a (fun af=>wpLq P I Q (qc_ l (qp_ l)) af w.drew)->NWP P (.region 3 l.toArray true) Q a w
 | drg {l:List Oper} {Q:Exit->Act->World->Prop} {a:Act} {w:World} (cv:Nat->Bool) (I:World->Prop) :
   evG P cv I (qm_ l (qp_ l)) a (fun af=>wpLg P l cv I Q (qq_ 0 l (qp_ l)) af w.drew)->NWP P (.region 4 l.toArray true) Q a w
 | drx {l:List Oper} {Q:Exit->Act->World->Prop} {a:Act} {w:World} {A B:Oper} {r:List Oper} (I:World->Prop):qc_ l (qp_ l)=A :: B :: r ->
   evF P I (qm_ l (qp_ l)) a (fun af=>wpLd P I Q (A :: B :: r) af w.drew/\wpLd P I Q (B :: A :: r) af w.drew)->NWP P (.region 5 l.toArray true) Q a w
 | drq {l:List Oper} {Q:Exit->Act->World->Prop} {a:Act} {w:World} (C:World->Prop):C w.drew ->
   wpQuiet P l.toArray C (fun a'=>∀ w',C w'->Q .normal a' w') l a->NWP P (.region 2 l.toArray true) Q a w
 | seq {x y:Code} {Q R:Exit->Act->World->Prop} {a:Act} {w:World}:NWP P x R a w->(∀ a w,R .normal a w->NWP P y Q a w) ->
   (∀ e a w,e ≠ .normal->R e a w->Q e a w)->NWP P (.seq x y) Q a w
 | condT {c:Operand} {x y:Code} {Q:Exit->Act->World->Prop} {a:Act} {w:World}:a.eval c=.bool true->NWP P x Q a w->NWP P (.cond c x y) Q a w
 | condF {c:Operand} {x y:Code} {Q:Exit->Act->World->Prop} {a:Act} {w:World}:a.eval c=.bool false->NWP P y Q a w->NWP P (.cond c x y) Q a w
 | block {id:Nat} {c:Code} {Q:Exit->Act->World->Prop} {a:Act} {w:World}:NWP P c (Exit.inBlock id Q) a w->NWP P (.block id c) Q a w
 | loop {c:Code} {Q:Exit->Act->World->Prop} {a:Act} {w:World} (I:Act->World->Prop) (μ:Act->World->Nat):I a w ->
   (∀ a w,I a w->NWP P c (Exit.then (fun a' w'=>I a' w'/\μ a' w' < μ a w) Q) a w)->NWP P (.loop c) Q a w
 | scope {c rest:Code} {Q:Exit->Act->World->Prop} {a:Act} {w:World} (l:Nat) (J:Act->World->Prop) (μ:Act->World->Nat):findLabel c l=some rest ->
   NWP P c (Exit.jump l J Q) a w->(∀ a w,J a w->NWP P rest (Exit.jump l (fun a' w'=>J a' w'/\μ a' w' < μ a w) Q) a w)->NWP P (.scope c) Q a w
 | mono {c:Code} {Q R:Exit->Act->World->Prop} {a:Act} {w:World}:NWP P c R a w->(∀ e a w,R e a w->Q e a w)->NWP P c Q a w
theorem findLabel_nCode (l:Nat):∀ (c rest:Code),findLabel (qi_ c) l=some rest->∃ r,findLabel c l=some r/\rest=qi_ r:=by
 intro c
 induction c with
 | seq x y ihx ihy=>
  intro rest h
  simp only [qi_,findLabel] at h
  cases hx:findLabel (qi_ x) l with
  | some r=>
   rw [hx] at h
   obtain ⟨r0,h0,rfl⟩:=ihx r hx
   obtain rfl:=Option.some.inj h
   exact ⟨.seq r0 y,by simp [findLabel,h0],rfl⟩
  | none=>
   rw [hx] at h
   obtain ⟨r0,h0,rfl⟩:=ihy rest h
   have hn:findLabel x l=none:=by
    cases hxx:findLabel x l with
    | none=>rfl
    | some r=>
     exfalso
     have:∀ (c r:Code),findLabel c l=some r->∃ r',findLabel (qi_ c) l=some r':=by
      intro c
      induction c with
      | seq a b iha ihb=>
       intro r hr
       simp only [findLabel] at hr
       cases ha:findLabel a l with
       | some q=>obtain ⟨q',hq⟩:=iha q ha;exact ⟨.seq q' (qi_ b),by simp [qi_,findLabel,hq]⟩
       | none=>
        rw [ha] at hr
        obtain ⟨q',hq⟩:=ihb r hr
        cases hna:findLabel (qi_ a) l with
        | some z=>exact ⟨.seq z (qi_ b),by simp [qi_,findLabel,hna]⟩
        | none=>exact ⟨q',by simp [qi_,findLabel,hna,hq]⟩
      | label l'=>intro r hr;exact ⟨r,hr⟩
      | _=>intro r hr;simp [findLabel] at hr
     obtain ⟨r',hr'⟩:=this x r hxx
     rw [hx] at hr'
     cases hr'
   exact ⟨r0,by simp [findLabel,hn,h0],rfl⟩
 | label l'=>
  intro rest h
  simp only [qi_,findLabel] at h ⊢
  split at h
  ·rename_i he
   obtain rfl:=Option.some.inj h
   exact ⟨.skip,by simp [he],rfl⟩
  ·cases h
 | _=>intro rest h;simp [qi_,findLabel] at h
theorem NWP.sound {P:Program} (hm:P.follows .mixedOrders=true) {d:Code} {Q:Exit->Act->World->Prop} {a:Act} {w:World} (h:NWP P d Q a w) :
  ∀ c,d=qi_ c->c.wp P Q a w:=by
 induction h with
 | skip hq=>intro c hc;cases c <;> simp [qi_] at hc;exact wp_skip hq
 | label hq=>intro c hc;cases c <;> simp [qi_] at hc;exact wp_label hq
 | exit hq=>intro c hc;cases c <;> simp [qi_] at hc;subst hc;exact wp_exit hq
 | goto hq=>intro c hc;cases c <;> simp [qi_] at hc;subst hc;exact wp_goto hq
 | ret hq=>intro c hc;cases c <;> simp [qi_] at hc;exact wp_ret hq
 | @reg id l Q a w hq=>
  intro c hc
  cases c with
  | region id' ops dr=>
   simp only [qi_,Code.region.injEq] at hc
   obtain ⟨_,hl,rfl⟩:=hc
   have hl':l=ops.toList.map qh_:=by simpa using congrArg Array.toList hl
   subst hl'
   rw [wpList_nOper] at hq
   exact wp_region_list hq
  | _=>simp [qi_] at hc
 | @drw l Q a w I hq=>
  intro c hc
  cases c with
  | region id' ops dr=>
   simp only [qi_,Code.region.injEq] at hc
   obtain ⟨hn,hl,rfl⟩:=hc
   have hl':l=ops.toList.map qh_:=by simpa using congrArg Array.toList hl
   subst hl'
   rw [loudOf_nOper,qs_,loudsOf_nOper,evF_nOper,wpLd_nOper] at hq
   simp only [markOf,if_true] at hn
   split at hn
   ·rename_i hB
    have:=wp_draw hm (id:=id') hB I hq
    simpa using this
   ·split at hn
    ·cases hn
    ·split at hn
     ·cases hn
     ·split at hn <;> cases hn
  | _=>simp [qi_] at hc
 | @drl l Q a w I hq=>
  intro c hc
  cases c with
  | region id' ops dr=>
   simp only [qi_,Code.region.injEq] at hc
   obtain ⟨hn,hl,rfl⟩:=hc
   have hl':l=ops.toList.map qh_:=by simpa using congrArg Array.toList hl
   subst hl'
   rw [loudOf_nOper,qs_,loudsOf_nOper,evF_nOper,wpLq_nOper] at hq
   simp only [markOf,if_true] at hn
   split at hn
   ·rename_i hB
    split at hn
    ·rename_i hL
     have:=wp_drawQ hm (id:=id') hB hL I hq
     simpa using this
    ·cases hn
   ·split at hn
    ·cases hn
    ·split at hn
     ·cases hn
     ·split at hn <;> cases hn
  | _=>simp [qi_] at hc
 | @drg l Q a w cv I hq=>
  intro c hc
  cases c with
  | region id' ops dr=>
   simp only [qi_,Code.region.injEq] at hc
   obtain ⟨hn,hl,rfl⟩:=hc
   have hl':l=ops.toList.map qh_:=by simpa using congrArg Array.toList hl
   subst hl'
   rw [loudOf_nOper,qs_,loudsG_nOper,evG_nOper,wpLg_nOper] at hq
   simp only [markOf,if_true] at hn
   split at hn
   ·split at hn <;> cases hn
   ·split at hn
    ·rename_i hB
     have:=wp_drawG hm (id:=id') cv (Bool.and_eq_true_iff.1 hB).2 I hq
     simpa using this
    ·split at hn
     ·cases hn
     ·split at hn <;> cases hn
  | _=>simp [qi_] at hc
 | @drx l Q a w A B r I hlo hq=>
  intro c hc
  cases c with
  | region id' ops dr=>
   simp only [qi_,Code.region.injEq] at hc
   obtain ⟨hn,hl,rfl⟩:=hc
   have hl':l=ops.toList.map qh_:=by simpa using congrArg Array.toList hl
   subst hl'
   rw [loudOf_nOper,loudsOf_nOper] at hlo
   rw [loudOf_nOper,qs_,evF_nOper] at hq
   cases hL:qc_ ops.toList (qp_ ops.toList) with
   | nil=>rw [hL] at hlo;cases hlo
   | cons A0 t=>
    cases t with
    | nil=>rw [hL] at hlo;cases hlo
    | cons B0 r0=>
     rw [hL] at hlo
     simp only [List.map_cons,List.cons.injEq] at hlo
     obtain ⟨rfl,rfl,rfl⟩:=hlo
     have e1:(qh_ A0 :: qh_ B0 :: r0.map qh_)=(A0 :: B0 :: r0).map qh_:=rfl
     have e2:(qh_ B0 :: qh_ A0 :: r0.map qh_)=(B0 :: A0 :: r0).map qh_:=rfl
     rw [e1,e2,wpLd_nOper,wpLd_nOper] at hq
     simp only [markOf,if_true] at hn
     split at hn
     ·split at hn <;> cases hn
     ·split at hn
      ·cases hn
      ·split at hn
       ·rename_i hB
        have:=wp_drawX hm (id:=id') (Bool.and_eq_true_iff.1 hB).2 I hL hq
        simpa using this
       ·split at hn <;> cases hn
  | _=>simp [qi_] at hc
 | @drq l Q a w C hC hq=>
  intro c hc
  cases c with
  | region id' ops dr=>
   simp only [qi_,Code.region.injEq] at hc
   obtain ⟨hn,hl,rfl⟩:=hc
   have hl':l=ops.toList.map qh_:=by simpa using congrArg Array.toList hl
   subst hl'
   rw [wpQuiet_nOper] at hq
   simp only [markOf,if_true] at hn
   split at hn
   ·split at hn <;> cases hn
   ·split at hn
    ·cases hn
    ·split at hn
     ·cases hn
     ·split at hn
      ·rename_i hB
       exact wp_region_quiet hm hB hC hq
      ·cases hn
  | _=>simp [qi_] at hc
 | seq hx hy he ihx ihy=>
  intro c hc
  cases c <;> simp [qi_] at hc
  obtain ⟨rfl,rfl⟩:=hc
  refine wp_seq (wp_mono (ihx _ rfl) fun e a w hr=>?_)
  cases e with
  | normal=>exact ihy a w hr _ rfl
  | _=>exact he _ a w (by simp) hr
 | condT hc0 _ ih=>
  intro c hc
  cases c <;> simp [qi_] at hc
  obtain ⟨rfl,rfl,rfl⟩:=hc
  exact wp_cond_true hc0 (ih _ rfl)
 | condF hc0 _ ih=>
  intro c hc
  cases c <;> simp [qi_] at hc
  obtain ⟨rfl,rfl,rfl⟩:=hc
  exact wp_cond_false hc0 (ih _ rfl)
 | block _ ih=>
  intro c hc
  cases c <;> simp [qi_] at hc
  obtain ⟨rfl,rfl⟩:=hc
  exact wp_block (ih _ rfl)
 | loop I μ h0 _ ih=>
  intro c hc
  cases c <;> simp [qi_] at hc
  subst hc
  exact wp_loop I μ h0 fun a w hI=>ih a w hI _ rfl
 | scope l J μ hf _ _ ih1 ih2=>
  intro c hc
  cases c <;> simp [qi_] at hc
  subst hc
  obtain ⟨r,hr,rfl⟩:=findLabel_nCode l _ _ hf
  exact wp_scope_jumps l J μ hr (ih1 _ rfl) fun a w hJ=>ih2 a w hJ _ rfl
 | mono _ hq ih=>intro c hc;exact wp_mono (ih c hc) hq
theorem calls_of_nwp {P:Program} (hm:P.follows .mixedOrders=true) {f:FuncId} {fn:Func} {c d:Code} {args:Array Value} {w:World} {R:Ending->World->Prop}
  (hf:P.funcs[f]?=some fn) (hb:fn.body=some c) (hd:d=qi_ c)
  (h:NWP P d (bodyPost P fn R) { tmps:=args++Array.replicate (fn.ntmps - args.size) undef,defers:=[] } w):Calls P f args w R:=
 calls_of_wp hf hb (h.sound hm c hd)
def mk (d : Option Nat) (op : Op) : Oper := ⟨d, op, 0, "", #[], none⟩
def tm (n:Nat):Operand:=.tmp n
def rg (l:List Oper):Code:=.region 0 l.toArray false
def _root_.Go.Act.get (a:Act) (t:Nat):Value:=a.tmps.getD t undef
theorem qk_ (a:Act) (v:Value):a.eval (.const v)=v:=rfl
theorem put_size (a:Act) (d:Option Nat) (v:Value):(a.put d v).tmps.size=a.tmps.size:=by
 cases d <;> simp [Act.put]
theorem put_defers (a:Act) (d:Option Nat) (v:Value):(a.put d v).defers=a.defers:=by
 cases d <;> rfl
theorem get_put (a:Act) (d:Nat) (v:Value) (h:d < a.tmps.size):(a.put (some d) v).get d=v:=by
 simp [Act.put,Act.get,h]
theorem get_put_ne (a:Act) (d s:Nat) (v:Value) (h:s ≠ d):(a.put (some d) v).get s=a.get s:=by
 simp only [Act.put,Act.get,Array.getD_eq_getD_getElem?,Array.getElem?_setIfInBounds]
 rw [if_neg (by omega)]
structure Pv (x m k0 n:Nat) (a a':Act):Prop where
 size:a'.tmps.size=a.tmps.size
 defers:a'.defers=a.defers
 get:∀ s,s ≠ x->(s < m \/ (k0<=s/\s < n))->a'.get s=a.get s
theorem gpo {a:Act} {d s:Nat} {v:Value} (h:s ≠ d):(a.put (some d) v).get s=a.get s:=get_put_ne a d s v h
theorem gpe {a:Act} {d:Nat} {v:Value} (h:d < a.tmps.size):(a.put (some d) v).get d=v:=get_put a d v h
theorem Pv.trans {x m k0 n:Nat} {a b c:Act} (h:Pv x m k0 n a b) (k:Pv x m k0 n b c):Pv x m k0 n a c:=
 ⟨k.size.trans h.size,k.defers.trans h.defers,fun s hs hm=>(k.get s hs hm).trans (h.get s hs hm)⟩
theorem Pv.mono {x m k0 n m' n':Nat} {a b:Act} (h:Pv x m k0 n a b) (hm:m'<=m) (hn:n'<=n):Pv x m' k0 n' a b:=
 ⟨h.size,h.defers,fun s hs hh=>h.get s hs (by omega)⟩
theorem Pv.put {x m k0 n:Nat} {a b:Act} (h:Pv x m k0 n a b) {d:Nat} (v:Value) (hd:d=x \/ (m<=d/\(d < k0 \/ n<=d))):Pv x m k0 n a (b.put (some d) v):=
 ⟨(put_size _ _ _).trans h.size,(put_defers _ _ _).trans h.defers,fun s hs hh=>by rw [gpo (by omega)];exact h.get s hs hh⟩
section ops
variable {P:Program} {ops:Array Oper} {Q:Exit->Act->World->Prop} {r:List Oper} {a:Act} {w:World}
theorem wl_intro {d:Option Nat} {op:Op} (h:(mk d op).wp P a w (wpList P ops Q r) Q):wpList P ops Q (mk d op :: r) a w:=by
 unfold wpList
 rw [if_pos (by simp [Region.wanted,mk])]
 exact .inl h
theorem qn_ {d:Option Nat} {op:Op} {v:Value} {w':World} (h:(execOp a.eval (mk d op)).run P w=.ok (.value v) w')
  (hn:wpList P ops Q r (a.put d v) w'):wpList P ops Q (mk d op :: r) a w:=
 wl_intro (by unfold Oper.wp;rw [h];exact hn)
theorem wl_skip {d:Option Nat} {op:Op} {w':World} (h:(execOp a.eval (mk d op)).run P w=.ok .skip w')
  (hn:wpList P ops Q r (a.put d undef) w'):wpList P ops Q (mk d op :: r) a w:=
 wl_intro (by unfold Oper.wp;rw [h];exact hn)
theorem wl_move {d:Option Nat} {x:Operand} (h:wpList P ops Q r (a.put d (a.eval x)) w):wpList P ops Q (mk d (.move x) :: r) a w:=
 qn_ rfl h
theorem wl_assign {d:Option Nat} {x:Operand} (h:wpList P ops Q r (a.put d (a.eval x)) w):wpList P ops Q (mk d (.assign x) :: r) a w:=
 qn_ rfl h
theorem wl_nilCheck {d:Option Nat} {x:Operand} {p:Addr} (hx:a.eval x=.pointer (some p)) (h:wpList P ops Q r (a.put d (.pointer (some p))) w) :
  wpList P ops Q (mk d (.nilCheck x) :: r) a w:=
 qn_ (by simp [execOp,mk,hx]) h
structure TyIs (P:Program) (t:TypeId) (d:TypeDesc) (size:Nat):Prop where
 und:P.underlying t=some d
 info:∃ i,P.info? t=some i/\i.size=size
theorem TyIs.sizeOf {t:TypeId} {d:TypeDesc} {n:Nat} (h:TyIs P t d n) (w:World):(sizeOf t).run P w=.ok n w:=by
 obtain ⟨i,hi,rfl⟩:=h.info
 simp [Go.sizeOf,typeInfo,hi]
theorem TyIs.isAgg {t:TypeId} {d:TypeDesc} {n:Nat} (h:TyIs P t d n) (w:World) :
  (isAgg t).run P w=.ok (match d with | .struct _ | .array _ _=>true | _=>false) w:=by
 simp only [Go.isAgg,run_underlying h.und,Sem.run_bind,Result.andThen_ok]
 cases d <;> rfl
theorem wl_fieldAddr {d:Option Nat} {x:Operand} {T k b o off:Nat} {fs:Array Field} {f:Field} {n:Nat} (hx:a.eval x=.pointer (some ⟨b,o,none⟩)) (hT:P.underlying T=some (.struct fs)) (hk:fs[k]?=some f)
  (ho:f.offset=off) (hn:∀ w,(sizeOf f.type).run P w=.ok (n + 1) w) (h:wpList P ops Q r (a.put d (.pointer (some ⟨b,o + off,none⟩))) w) :
  wpList P ops Q (mk d (.fieldAddr T x k) :: r) a w:=by
 refine qn_ ?_ h
 simp [execOp,mk,hx,Instr.fieldAt,run_underlying hT,hk,ho,fieldPlace,hn,Instr.sureAddr,Addr.add_lit]
theorem wl_load1 {d:Option Nat} {x:Operand} {F:TypeId} {p:Addr} {v:Value} (hx:a.eval x=.pointer (some p)) (hF:(isAgg F).run P w=.ok false w) (hv:w.cell? p=some v)
  (h:wpList P ops Q r (a.put d v) w):wpList P ops Q (mk d (.load F x) :: r) a w:=by
 refine qn_ ?_ h
 simp [execOp,mk,hx,Instr.loadAt,Instr.sureAddr,loadVar,hF,load,hv,Sem.run]
theorem wl_loadN {d:Option Nat} {x:Operand} {F:TypeId} {b o:Nat} {cs:List Value} (hx:a.eval x=.pointer (some ⟨b,o,none⟩)) (hF:(isAgg F).run P w=.ok true w) (hs:(sizeOf F).run P w=.ok cs.length w)
  (hc:∀ j v,cs[j]?=some v->w.cell? ⟨b,o + j,none⟩=some v)
  (h:wpList P ops Q r (a.put d (.agg cs.toArray)) w):wpList P ops Q (mk d (.load F x) :: r) a w:=by
 refine qn_ ?_ h
 have hl:=run_loadCells_list (P:=P) w ⟨b,o,none⟩ cs (fun j v hj=>by rw [Addr.add_lit];exact hc j v hj)
 simp [execOp,mk,hx,Instr.loadAt,Instr.sureAddr,loadVar,hF,hs,hl]
def splice (cur:Array Value) (o:Nat) (vs:List Value):Array Value:=(cur.toList.take o++vs++cur.toList.drop (o + vs.length)).toArray
theorem splice_size {cur:Array Value} {o:Nat} {vs:List Value} (h:o + vs.length<=cur.size):(splice cur o vs).size=cur.size:=by
 simp [splice];omega
theorem splice_out {cur:Array Value} {o:Nat} {vs:List Value} (h:o + vs.length<=cur.size) (j:Nat) (hj:j < o \/ o + vs.length<=j):(splice cur o vs)[j]?=cur[j]?:=by
 simp only [splice,List.getElem?_toArray,List.append_assoc]
 rcases hj with hj | hj
 ·rw [List.getElem?_append_left (by simp;omega),List.getElem?_take_of_lt hj];simp
 ·rw [List.getElem?_append_right (by simp;omega),List.getElem?_append_right (by simp;omega),List.getElem?_drop]
  simp only [List.length_take,Array.length_toList,Array.getElem?_toList]
  congr 1
  omega
theorem splice_in {cur:Array Value} {o:Nat} {vs:List Value} (h:o + vs.length<=cur.size) (j:Nat) (hj:j < vs.length):(splice cur o vs)[o + j]?=vs[j]?:=by
 simp only [splice,List.getElem?_toArray,List.append_assoc]
 rw [List.getElem?_append_right (by simp;omega),List.getElem?_append_left (by simp;omega)]
 simp only [List.length_take,Array.length_toList]
 congr 1
 omega
theorem wl_store {x y:Operand} {F:TypeId} {g o:Nat} {cur:Array Value} {t:TypeId} {v:Value} {vs:List Value} (hx:a.eval x=.pointer (some ⟨g,o,none⟩)) (hy:a.eval y=v)
  (hv:v.cells.toList=vs) (hF:(sizeOf F).run P w=.ok vs.length w) (hg:w.heap[g]?=some (.cells cur t (0,0))) (ho:o + vs.length<=cur.size) (h1:∀ u ∈ vs,u.oneCell'=true)
  (h:wpList P ops Q r a (w.setRow g (splice cur o vs))):wpList P ops Q (mk none (.store F x y) :: r) a w:=by
 refine wl_skip (w':=w.setRow g (splice cur o vs)) ?_ h
 have hst:=run_storeCells_at P g o t vs 0 cur w hg (by simpa using ho) h1
 simp only [Nat.add_zero] at hst
 have hsz:v.cells.size=vs.length:=by rw [<- hv];simp
 simp [execOp,mk,hx,hy,Instr.storeAt,Instr.sureAddr,storeVar,hF,hsz,hv,hst,splice]
def Ent (P:Program) (f:Nat):Prop:=∀ args w,(callFunc f args).run P w=.ok (.enter f args) w
theorem wl_call {d:Option Nat} {f:Nat} {args:List Operand} {vs:Array Value} {R:Ending->World->Prop} (hf:Ent P f)
  (hargs:(args.map a.eval).toArray=vs)
  (hc:Calls P f vs w R) (h:∀ e w',R e w'->∃ v,e=.returned v/\wpList P ops Q r (a.put d v) w') :
  wpList P ops Q (mk d (.call ⟨.value (.func f),args.toArray,#[]⟩) :: r) a w:=by
 refine wl_intro ?_
 unfold Oper.wp
 have:(execOp a.eval (mk d (.call ⟨.value (.func f),args.toArray,#[]⟩))).run P w=.ok (.enter f vs) w:=by
  have he:a.eval (.func f)=.func (.func f) #[] #[]:=rfl
  simp only [execOp,mk,resolve,he,Deferred.ofValue,invoke,Sem.run_bind,Sem.run_pure,Result.andThen_ok,Array.empty_append,Array.append_empty,List.map_toArray,hargs]
  exact hf _ _
 rw [this]
 exact hc.mono fun e w' hR=>by
  obtain ⟨v,rfl,hh⟩:=h e w' hR
  exact hh
theorem wl_bin {d:Option Nat} {op:BinOp} {T U:TypeId} {x y:Operand} {k:IntKind} {m n:Int} {v:Value} (hx:a.eval x=.int k m) (hy:a.eval y=.int k n)
  (hs:op ≠ .shl/\op ≠ .shr) (hop:(binOp op T (.int k m) (.int k n)).run P w=.ok v w) (h:wpList P ops Q r (a.put d v) w):wpList P ops Q (mk d (.binOp op T x y U) :: r) a w:=by
 refine qn_ ?_ h
 have he:(eqGuard op T x y (.int k m) (.int k n)).run P w=.ok () w:=by
  unfold eqGuard
  cases op <;> simp
 simp only [execOp,mk,hx,hy,Sem.run_bind,he,Result.andThen_ok,hop,Sem.run_pure]
theorem wl_not {d:Option Nat} {T:TypeId} {x:Operand} {b:Bool} (hx:a.eval x=.bool b) (h:wpList P ops Q r (a.put d (.bool !b)) w):wpList P ops Q (mk d (.unOp .not T x) :: r) a w:=by
 refine qn_ ?_ h
 simp [execOp,mk,hx,Op.unary]
theorem wl_convInt {d:Option Nat} {S T:TypeId} {x:Operand} {k k':IntKind} {m:Int} (hx:a.eval x=.int k m) (hS:P.underlying S=some (.int k)) (hT:P.underlying T=some (.int k'))
  (h:wpList P ops Q r (a.put d (.int k' (k'.wrap m))) w):wpList P ops Q (mk d (.convert S T x) :: r) a w:=by
 refine qn_ ?_ h
 simp [execOp,mk,hx,convert,run_underlying hS,run_underlying hT,Conv.intToInt]
theorem wl_alloc {d:Option Nat} {T:TypeId} {z:Value} (hz:(zeroValue T).run P w=.ok z w) (h:wpList P ops Q r (a.put d (.pointer (some ⟨w.heap.size,0,none⟩))) (w.alloc (.cells z.cells T (0,0)))) :
  wpList P ops Q (mk d (.alloc T) :: r) a w:=by
 refine qn_ (w':=w.alloc (.cells z.cells T (0,0))) ?_ h
 simp [execOp,mk,Instr.alloc,hz,newVar,newRow,newObj,Sem.run]
theorem wl_indexAddr {d:Option Nat} {x y:Operand} {F E:TypeId} {b o n c i sz:Nat} {k:IntKind} (hx:a.eval x=.slice (some ⟨b,o,none⟩) n c) (hy:a.eval y=.int k i) (hi:i < n) (hF:P.underlying F=some (.slice E))
  (hs:(sizeOf E).run P w=.ok sz w) (h:wpList P ops Q r (a.put d (.pointer (some ⟨b,o + i * sz,none⟩))) w):wpList P ops Q (mk d (.indexAddr F x y) :: r) a w:=by
 refine qn_ ?_ h
 simp [execOp,mk,hx,hy,Instr.indexAt,asIntOf,run_underlying hF,hs,hi,Addr.add_lit]
theorem wl_len {d:Option Nat} {x:Operand} {F E ty:TypeId} {base:Option Addr} {n c:Nat} (hx:a.eval x=.slice base n c) (hF:P.underlying F=some (.slice E))
  (h : wpList P ops Q r (a.put d (.int .i64 n)) w) : wpList P ops Q (⟨d, .call ⟨.builtin .len, #[x], #[F]⟩, ty, "", #[], none⟩ :: r) a w := by
 have hw : Region.wanted ⟨d, .call ⟨.builtin .len, #[x], #[F]⟩, ty, "", #[], none⟩ (yielded ops a.tmps) = true := by simp [Region.wanted]
 unfold wpList
 rw [if_pos hw]
 refine .inl ?_
 unfold Oper.wp
 have : (execOp a.eval ⟨d, .call ⟨.builtin .len, #[x], #[F]⟩, ty, "", #[], none⟩).run P w = .ok (.value (.int .i64 n)) w := by
  simp [execOp,resolve,invoke,builtin,hx,Builtin.len_,run_underlying hF,goInt]
 rw [this]
 exact h
end ops
structure Keeps (X:Nat->Prop) (w w':World):Prop where
 os:w'.os=w.os
 tape:w'.tape=w.tape
 output:w'.output=w.output
 size:w.heap.size<=w'.heap.size
 block:∀ k,k < w.heap.size->¬ X k->w'.heap[k]?=w.heap[k]?
theorem Keeps.refl (X:Nat->Prop) (w:World):Keeps X w w:=⟨rfl,rfl,rfl,Nat.le_refl _,fun _ _ _=>rfl⟩
theorem Keeps.trans {X:Nat->Prop} {a b c:World} (h:Keeps X a b) (k:Keeps X b c):Keeps X a c:=
 ⟨k.os.trans h.os,k.tape.trans h.tape,k.output.trans h.output,Nat.le_trans h.size k.size,fun i hi hx=>(k.block i (Nat.lt_of_lt_of_le hi h.size) hx).trans (h.block i hi hx)⟩
theorem Keeps.mono {X Y:Nat->Prop} {a b:World} (h:Keeps X a b) (hxy:∀ k,k < a.heap.size->X k->Y k):Keeps Y a b:=
 ⟨h.os,h.tape,h.output,h.size,fun i hi hy=>h.block i hi (fun hx=>hy (hxy i hi hx))⟩
theorem Keeps.drew (X:Nat->Prop) (w:World):Keeps X w w.drew:=⟨rfl,rfl,rfl,Nat.le_refl _,fun _ _ _=>rfl⟩
theorem Keeps.alloc (X:Nat->Prop) (w:World) (o:Obj):Keeps X w (w.alloc o):=
 ⟨rfl,rfl,rfl,by simp,fun k hk _=>by show (w.heap.push o)[k]?=_;rw [Array.getElem?_push,if_neg (by omega)]⟩
theorem Keeps.setRow (X:Nat->Prop) (w:World) (g:Nat) (cs:Array Value) (hg:X g):Keeps X w (w.setRow g cs):=
 ⟨rfl,rfl,rfl,by simp,fun k _ hk=>setRow_other w g k cs (fun e=>hk (e ▸ hg))⟩
theorem lt_of_cell {w:World} {b o:Nat} {v:Value} (h:w.cell? ⟨b,o,none⟩=some v):b < w.heap.size:=World.block_lt_of_cell? w ⟨b,o,none⟩ h
theorem cell_of_block {w w':World} {b:Nat} (h:w'.heap[b]?=w.heap[b]?) (o:Nat):w'.cell? ⟨b,o,none⟩=w.cell? ⟨b,o,none⟩:=by simp [World.cell?,h]
theorem Keeps.cell {X:Nat->Prop} {w w':World} (h:Keeps X w w') {b o:Nat} {v:Value} (hb:¬ X b) (hv:w.cell? ⟨b,o,none⟩=some v):w'.cell? ⟨b,o,none⟩=some v:=by
 rw [cell_of_block (h.block b (lt_of_cell hv) hb)];exact hv
def OctAt (w:World) (b o:Nat) (l:Bs):Prop:=∀ i x,l[i]?=some x->w.cell? ⟨b,o + i,none⟩=some (.int .u8 (x.toNat:Int))
theorem OctAt.keep {X:Nat->Prop} {w w':World} {b o:Nat} {l:Bs} (h:OctAt w b o l) (hk:Keeps X w w') (hb:¬ X b):OctAt w' b o l:=
 fun i x hi=>hk.cell hb (h i x hi)
def SlRp (w:World) (X:Nat->Prop) (v:Value) (l:Bs):Prop:=
 (v=.slice none 0 0/\l=[]) \/ ∃ b o c,v=.slice (some ⟨b,o,none⟩) l.length c/\¬ X b/\b < w.heap.size/\l.length<=c/\c<=maxLen/\OctAt w b o l
theorem SlRp.keep {X:Nat->Prop} {w w':World} {v:Value} {l:Bs} (h:SlRp w X v l) (hk:Keeps X w w'):SlRp w' X v l:=by
 rcases h with h | ⟨b,o,c,hv,hb,hs,hc,hm,ho⟩
 ·exact .inl h
 ·exact .inr ⟨b,o,c,hv,hb,Nat.lt_of_lt_of_le hs hk.size,hc,hm,ho.keep hk hb⟩
theorem SlRp.mono {X Y:Nat->Prop} {w:World} {v:Value} {l:Bs} (h:SlRp w X v l) (hy:∀ k,k < w.heap.size->Y k->X k):SlRp w Y v l:=by
 rcases h with h | ⟨b,o,c,hv,hb,hs,hc,hm,ho⟩
 ·exact .inl h
 ·exact .inr ⟨b,o,c,hv,fun hh=>hb (hy b hs hh),hs,hc,hm,ho⟩
structure Ent1 where
 key:Nat
 val:Value
 born:Nat
def Ent1.entry (e:Ent1):MapEntry:=⟨.int .u32 (e.key:Int),e.val,e.born⟩
def Rising:List (Nat × Bs)->Prop
 | []=>True
 | [_]=>True
 | x :: y :: r=>x.1 < y.1/\Rising (y :: r)
def MapIs (w:World) (X:Nat->Prop) (r:Nat) (t:List (Nat × Bs)):Prop:=
 ∃ (es:List Ent1) (clock:Nat) (f:Ent1->Bs),w.heap[r]?=some (.map (es.map Ent1.entry).toArray clock)/\(∀ e ∈ es,e.key < 4294967296/\e.born < clock/\SlRp w (fun k=>X k \/ k=r) e.val (f e)) /\
  (es.map Ent1.born).Nodup/\(es.map Ent1.key).Nodup/\(es.map fun e=>(e.key,f e)).Perm t/\Rising t
theorem MapIs.keep {X:Nat->Prop} {w w':World} {r:Nat} {t:List (Nat × Bs)} (h:MapIs w X r t) (hk:Keeps X w w') (hr:¬ X r):MapIs w' X r t:=by
 obtain ⟨es,c,f,hh,he,h1,h2,h3,h4⟩:=h
 exact ⟨es,c,f,by rw [hk.block r (Array.getElem?_eq_some_iff.1 hh).1 hr];exact hh,fun e hm=>⟨(he e hm).1,(he e hm).2.1,(he e hm).2.2.keep (hk.mono fun _ _ h=>.inl h)⟩,h1,h2,h3,h4⟩
theorem MapIs.mono {X Y:Nat->Prop} {w:World} {r:Nat} {t:List (Nat × Bs)} (h:MapIs w X r t) (hy:∀ k,k < w.heap.size->Y k->X k):MapIs w Y r t:=by
 obtain ⟨es,c,f,hh,he,h1,h2,h3,h4⟩:=h
 exact ⟨es,c,f,hh,fun e hm=>⟨(he e hm).1,(he e hm).2.1,(he e hm).2.2.mono fun k hk h=>h.elim (fun h=>.inl (hy k hk h)) .inr⟩,h1,h2,h3,h4⟩
def TgRp (w:World) (X:Nat->Prop) (v:Value) (t:List (Nat × Bs)):Prop:=
 (v=.map none/\t=[]) \/ ∃ r,v=.map (some r)/\¬ X r/\r < w.heap.size/\MapIs w X r t/\t ≠ []
theorem TgRp.keep {X:Nat->Prop} {w w':World} {v:Value} {t:List (Nat × Bs)} (h:TgRp w X v t) (hk:Keeps X w w'):TgRp w' X v t:=by
 rcases h with h | ⟨r,hv,hr,hs,hm,hne⟩
 ·exact .inl h
 ·exact .inr ⟨r,hv,hr,Nat.lt_of_lt_of_le hs hk.size,hm.keep hk hr,hne⟩
theorem TgRp.mono {X Y:Nat->Prop} {w:World} {v:Value} {t:List (Nat × Bs)} (h:TgRp w X v t) (hy:∀ k,k < w.heap.size->Y k->X k):TgRp w Y v t:=by
 rcases h with h | ⟨r,hv,hr,hs,hm,hne⟩
 ·exact .inl h
 ·exact .inr ⟨r,hv,fun hh=>hr (hy r hs hh),hs,hm.mono hy,hne⟩
def Prim.kind:Prim->IntKind
 | .i8=>.i8 | .i16=>.i16 | .u16=>.u16 | .i32=>.i32 | _=>.i64
def Prim.fits:Prim->Int->Prop
 | .bool,x=>x=0 \/ x=1
 | .i8,x=>-128<=x/\x < 128
 | .i16,x=>-32768<=x/\x < 32768
 | .u16,x=>0<=x/\x < 65536
 | .i32,x=>-2147483648<=x/\x < 2147483648
 | .i64,x=>-9223372036854775808<=x/\x < 9223372036854775808
 | .uuid,_=>False
def LRp (w:World) (X:Nat->Prop):Ty->List Value->V->Prop
 | .prim .bool,cs,v=>∃ b:Bool,cs=[.bool b]/\v=.n (if b then 1 else 0)
 | .prim .uuid,cs,v=>∃ l:Bs,l.length=16/\cs=l.map (fun b=>.int .u8 (b.toNat:Int))/\v=.s l
 | .prim p,cs,v=>∃ x:Int,cs=[.int p.kind x]/\v=.n x/\p.fits x
 | .str none,cs,v=>∃ l:Bs,cs=[.string ⟨l.toArray⟩]/\v=.s l/\l.length<=maxLen
 | .str (some _),cs,v=>(cs=[.pointer none]/\v=.nul) \/ ∃ (l:Bs) (b o:Nat),cs=[.pointer (some ⟨b,o,none⟩)]/\¬ X b/\w.cell? ⟨b,o,none⟩=some (.string ⟨l.toArray⟩)/\v=.s l/\l.length<=maxLen
 | .bytes _,cs,v=>(cs=[.slice none 0 0]/\v=.nul) \/ ∃ (l:Bs) (b o c:Nat),cs=[.slice (some ⟨b,o,none⟩) l.length c]/\¬ X b/\b < w.heap.size/\l.length<=c/\c<=maxLen/\OctAt w b o l/\v=.s l
 | _,_,_=>False
theorem LRp.keep {X:Nat->Prop} {w w':World} {ty:Ty} {cs:List Value} {v:V} (h:LRp w X ty cs v) (hk:Keeps X w w'):LRp w' X ty cs v:=by
 cases ty with
 | prim p=>cases p <;> exact h
 | str nul=>
  cases nul with
  | none=>exact h
  | some m=>
   rcases h with h | ⟨l,b,o,h1,h2,h3,h4⟩
   ·exact .inl h
   ·exact .inr ⟨l,b,o,h1,h2,hk.cell h2 h3,h4⟩
 | bytes nul=>
  rcases h with h | ⟨l,b,o,c,h1,h2,h3,h4,h5,h6,h7⟩
  ·exact .inl h
  ·exact .inr ⟨l,b,o,c,h1,h2,Nat.lt_of_lt_of_le h3 hk.size,h4,h5,h6.keep hk h2,h7⟩
 | list=>exact h.elim
 | struct=>exact h.elim
theorem LRp.mono {X Y:Nat->Prop} {w:World} {ty:Ty} {cs:List Value} {v:V} (h:LRp w X ty cs v) (hy:∀ k,k < w.heap.size->Y k->X k):LRp w Y ty cs v:=by
 cases ty with
 | prim p=>cases p <;> exact h
 | str nul=>
  cases nul with
  | none=>exact h
  | some m=>
   rcases h with h | ⟨l,b,o,h1,h2,h3,h4⟩
   ·exact .inl h
   ·exact .inr ⟨l,b,o,h1,fun hh=>h2 (hy b (lt_of_cell h3) hh),h3,h4⟩
 | bytes nul=>
  rcases h with h | ⟨l,b,o,c,h1,h2,h3,h4,h5,h6,h7⟩
  ·exact .inl h
  ·exact .inr ⟨l,b,o,c,h1,fun hh=>h2 (hy b h3 hh),h3,h4,h5,h6,h7⟩
 | list=>exact h.elim
 | struct=>exact h.elim
def Ty.leaf:Ty->Bool
 | .prim _ | .str _ | .bytes _=>true
 | _=>false
def toffEnd:Option Nat->Nat | some k=>k + 1 | none=>0
mutual
def Ty.sz:Ty->Nat
 | .prim .uuid=>16
 | .struct none toff fs=>fs.ext (toffEnd toff)
 | _=>1
def Fds.ext:Fds->Nat->Nat
 | .nil,m=>m
 | .cons _ _ _ _ off ty r,m=>r.ext (Nat.max m (off + ty.sz))
end
def TgAt (w:World) (X:Nat->Prop) (b o:Nat) (toff:Option Nat) (t:List (Nat × Bs)):Prop:=
 match toff with
 | some k=>∃ m,w.cell? ⟨b,o + k,none⟩=some m/\TgRp w X m t
 | none=>t=[]
theorem TgAt.frame {X:Nat->Prop} {w w':World} {b o:Nat} {toff:Option Nat} {t:List (Nat × Bs)} (h:TgAt w X b o toff t) (hk:Keeps X w w') (hs:∀ k,toff=some k->w'.cell? ⟨b,o + k,none⟩=w.cell? ⟨b,o + k,none⟩):TgAt w' X b o toff t:=by
 cases toff with
 | none=>exact h
 | some k=>obtain ⟨m,h1,h2⟩:=h;exact ⟨m,by rw [hs k rfl];exact h1,h2.keep hk⟩
theorem TgAt.mono {X Y:Nat->Prop} {w:World} {b o:Nat} {toff:Option Nat} {t:List (Nat × Bs)} (h:TgAt w X b o toff t) (hy:∀ k,k < w.heap.size->Y k->X k):TgAt w Y b o toff t:=by
 cases toff with
 | none=>exact h
 | some k=>obtain ⟨m,h1,h2⟩:=h;exact ⟨m,h1,h2.mono hy⟩
def qe_ (w:World) (b o:Nat) (cs:List Value):Prop:=∀ j c,cs[j]?=some c->w.cell? ⟨b,o + j,none⟩=some c
mutual
def Rp (w:World) (X:Nat->Prop):Ty->Nat->Nat->V->Prop
 | .prim p,b,o,v=>∃ cs,qe_ w b o cs/\LRp w X (.prim p) cs v
 | .str nul,b,o,v=>∃ cs,qe_ w b o cs/\LRp w X (.str nul) cs v
 | .bytes nul,b,o,v=>∃ cs,qe_ w b o cs/\LRp w X (.bytes nul) cs v
 | .list _ esz e,b,o,v=>
  (w.cell? ⟨b,o,none⟩=some (.slice none 0 0)/\v=.nul) \/
  ∃ (xs:List V) (p q c:Nat),w.cell? ⟨b,o,none⟩=some (.slice (some ⟨p,q,none⟩) xs.length c)/\¬ X p/\p < w.heap.size/\xs.length<=c/\c<=maxLen/\v=.l xs /\
   ∀ i x,xs[i]?=some x->Rp w X e p (q + i * esz) x
 | .struct none toff fs,b,o,v=>∃ (vs:List V) (t:List (Nat × Bs)),v=.st vs t/\RpF w X fs b o vs/\TgAt w X b o toff t
 | .struct (some _) toff fs,b,o,v=>
  (w.cell? ⟨b,o,none⟩=some (.pointer none)/\v=.nul) \/
  ∃ (p q:Nat) (vs:List V) (t:List (Nat × Bs)),w.cell? ⟨b,o,none⟩=some (.pointer (some ⟨p,q,none⟩))/\¬ X p/\p < w.heap.size/\v=.st vs t/\RpF w X fs p q vs/\TgAt w X p q toff t
def RpF (w:World) (X:Nat->Prop):Fds->Nat->Nat->List V->Prop
 | .nil,_,_,vs=>vs=[]
 | .cons _ _ _ _ off ty r,b,o,vs=>∃ v vs',vs=v :: vs'/\Rp w X ty b (o + off) v/\RpF w X r b o vs'
end
theorem LRp.len {w:World} {X:Nat->Prop} {ty:Ty} {cs:List Value} {v:V} (h:LRp w X ty cs v):cs.length=ty.sz:=by
 cases ty with
 | prim p=>
  cases p
  case bool=>obtain ⟨b,rfl,_⟩:=h;rfl
  case uuid=>obtain ⟨l,hl,rfl,_⟩:=h;simpa [Ty.sz] using hl
  all_goals (obtain ⟨x,rfl,_⟩:=h;rfl)
 | str nul=>
  cases nul with
  | none=>obtain ⟨l,rfl,_⟩:=h;rfl
  | some m=>
   rcases h with ⟨rfl,_⟩ | ⟨l,b,o,rfl,_⟩ <;> rfl
 | bytes nul=>
  rcases h with ⟨rfl,_⟩ | ⟨l,b,o,c,rfl,_⟩ <;> rfl
 | list=>exact h.elim
 | struct=>exact h.elim
theorem qe_.same {w w':World} {b o:Nat} {cs:List Value} (h:qe_ w b o cs) (hs:∀ j,o<=j->j < o + cs.length->w'.cell? ⟨b,j,none⟩=w.cell? ⟨b,j,none⟩):qe_ w' b o cs:=by
 intro j c hj
 have hlt:j < cs.length:=(List.getElem?_eq_some_iff.1 hj).1
 rw [hs (o + j) (by omega) (by omega)]
 exact h j c hj
theorem le_ext:∀ (fs:Fds) (m:Nat),m<=fs.ext m
 | .nil,m=>Nat.le_refl m
 | .cons _ _ _ _ off ty r,m=>Nat.le_trans (Nat.le_max_left m (off + ty.sz)) (le_ext r _)
mutual
theorem Rp.frame {X:Nat->Prop} {w w':World} (hk:Keeps X w w'):∀ (ty:Ty) (b o:Nat) (v:V),Rp w X ty b o v ->
  (∀ j,o<=j->j < o + ty.sz->w'.cell? ⟨b,j,none⟩=w.cell? ⟨b,j,none⟩)->Rp w' X ty b o v
 | .prim p,b,o,v,h,hs=>by
  obtain ⟨cs,hc,hl⟩:=h
  exact ⟨cs,hc.same (by rw [hl.len];exact hs),hl.keep hk⟩
 | .str nul,b,o,v,h,hs=>by
  obtain ⟨cs,hc,hl⟩:=h
  exact ⟨cs,hc.same (by rw [hl.len];exact hs),hl.keep hk⟩
 | .bytes nul,b,o,v,h,hs=>by
  obtain ⟨cs,hc,hl⟩:=h
  exact ⟨cs,hc.same (by rw [hl.len];exact hs),hl.keep hk⟩
 | .list nul esz e,b,o,v,h,hs=>by
  have h0:w'.cell? ⟨b,o,none⟩=w.cell? ⟨b,o,none⟩:=hs o (Nat.le_refl _) (by simp [Ty.sz])
  rcases h with ⟨h1,h2⟩ | ⟨xs,p,q,c,h1,h2,h3,h4,h5,h6,h7⟩
  ·exact .inl ⟨by rw [h0];exact h1,h2⟩
  ·refine .inr ⟨xs,p,q,c,by rw [h0];exact h1,h2,Nat.lt_of_lt_of_le h3 hk.size,h4,h5,h6,fun i x hi=>?_⟩
   exact Rp.frame hk e p _ x (h7 i x hi) (fun j _ _=>cell_of_block (hk.block p h3 h2) j)
 | .struct none toff fs,b,o,v,h,hs=>by
  obtain ⟨vs,t,h1,h2,h3⟩:=h
  have hle:=le_ext fs (toffEnd toff)
  simp only [Ty.sz] at hs
  exact ⟨vs,t,h1,RpF.frame hk fs b o vs _ h2 hs,h3.frame hk fun k hk'=>by subst hk';simp only [toffEnd] at hle hs;exact hs (o + k) (by omega) (by omega)⟩
 | .struct (some n) toff fs,b,o,v,h,hs=>by
  have h0:w'.cell? ⟨b,o,none⟩=w.cell? ⟨b,o,none⟩:=hs o (Nat.le_refl _) (by simp [Ty.sz])
  rcases h with ⟨h1,h2⟩ | ⟨p,q,vs,t,h1,h2,h3,h4,h5,h6⟩
  ·exact .inl ⟨by rw [h0];exact h1,h2⟩
  ·have hp:∀ j,w'.cell? ⟨p,j,none⟩=w.cell? ⟨p,j,none⟩:=fun j=>cell_of_block (hk.block p h3 h2) j
   exact .inr ⟨p,q,vs,t,by rw [h0];exact h1,h2,Nat.lt_of_lt_of_le h3 hk.size,h4,RpF.frame hk fs p q vs 0 h5 (fun j _ _=>hp j),h6.frame hk fun k _=>hp _⟩
theorem RpF.frame {X:Nat->Prop} {w w':World} (hk:Keeps X w w'):∀ (fs:Fds) (b o:Nat) (vs:List V) (m:Nat),RpF w X fs b o vs ->
  (∀ j,o<=j->j < o + fs.ext m->w'.cell? ⟨b,j,none⟩=w.cell? ⟨b,j,none⟩)->RpF w' X fs b o vs
 | .nil,b,o,vs,m,h,hs=>h
 | .cons lo hi tag df off ty r,b,o,vs,m,h,hs=>by
  obtain ⟨v,vs',h1,h2,h3⟩:=h
  have hle:Nat.max m (off + ty.sz)<=r.ext (Nat.max m (off + ty.sz)):=le_ext r _
  have hle2:off + ty.sz<=Nat.max m (off + ty.sz):=Nat.le_max_right _ _
  exact ⟨v,vs',h1,Rp.frame hk ty b (o + off) v h2 (fun j hj hj2=>hs j (by omega) (by simp only [Fds.ext];omega)),RpF.frame hk r b o vs' (Nat.max m (off + ty.sz)) h3 hs⟩
end
mutual
theorem Rp.mono {X Y:Nat->Prop} {w:World} (hy:∀ k,k < w.heap.size->Y k->X k):∀ (ty:Ty) (b o:Nat) (v:V),Rp w X ty b o v->Rp w Y ty b o v
 | .prim p,b,o,v,h=>by obtain ⟨cs,hc,hl⟩:=h;exact ⟨cs,hc,hl.mono hy⟩
 | .str nul,b,o,v,h=>by obtain ⟨cs,hc,hl⟩:=h;exact ⟨cs,hc,hl.mono hy⟩
 | .bytes nul,b,o,v,h=>by obtain ⟨cs,hc,hl⟩:=h;exact ⟨cs,hc,hl.mono hy⟩
 | .list nul esz e,b,o,v,h=>by
  rcases h with h | ⟨xs,p,q,c,h1,h2,h3,h4,h5,h6,h7⟩
  ·exact .inl h
  ·exact .inr ⟨xs,p,q,c,h1,fun hh=>h2 (hy p h3 hh),h3,h4,h5,h6,fun i x hi=>Rp.mono hy e p _ x (h7 i x hi)⟩
 | .struct none toff fs,b,o,v,h=>by
  obtain ⟨vs,t,h1,h2,h3⟩:=h
  exact ⟨vs,t,h1,RpF.mono hy fs b o vs h2,h3.mono hy⟩
 | .struct (some n) toff fs,b,o,v,h=>by
  rcases h with h | ⟨p,q,vs,t,h1,h2,h3,h4,h5,h6⟩
  ·exact .inl h
  ·exact .inr ⟨p,q,vs,t,h1,fun hh=>h2 (hy p h3 hh),h3,h4,RpF.mono hy fs p q vs h5,h6.mono hy⟩
theorem RpF.mono {X Y:Nat->Prop} {w:World} (hy:∀ k,k < w.heap.size->Y k->X k):∀ (fs:Fds) (b o:Nat) (vs:List V),RpF w X fs b o vs->RpF w Y fs b o vs
 | .nil,b,o,vs,h=>h
 | .cons lo hi tag df off ty r,b,o,vs,h=>by
  obtain ⟨v,vs',h1,h2,h3⟩:=h
  exact ⟨v,vs',h1,Rp.mono hy ty b _ v h2,RpF.mono hy r b o vs' h3⟩
end
def SrcAt (w:World) (S:Nat) (v:Value) (r:RS):Prop:=
 (v=.slice none 0 0/\r.src=[]/\r.nl=true) \/
 ∃ o c,v=.slice (some ⟨S,o,none⟩) r.src.length c/\r.nl=false/\r.src.length<=c/\c<=maxLen/\S < w.heap.size/\OctAt w S o r.src
def RdS (w:World) (T S R:Nat) (r:RS):Prop:=
 ∃ v,w.heap[R]?=some (.cells #[v,.bool r.bad] T (0,0))/\SrcAt w S v r
structure G where
 rd:PF->Nat
 un:PF->Nat
 len:Nat
 clen:Nat
 ok:Nat
 complete:Nat
 uv:Nat
 span:Nat
 tags:Nat
 set:Nat
 tR:Nat
 tUuid:Nat
 tVer:Nat
 tI8:Nat
 tI32:Nat
 tU32:Nat
 tInt:Nat
 tBool:Nat
 tErr:Nat
 tTags:Nat
 tSl:Nat
 tStr:Nat
 gErr:Nat
inductive Nm where
 | mk (l:List Nat) (s:List Nm)
def Nm.l:Nm->List Nat | .mk l _=>l
def Nm.s:Nm->List Nm | .mk _ s=>s
def Nm.n (m:Nm) (i:Nat):Nat:=m.l.getD i 0
structure Cx where
 hf:Bool
 b:Nat
 s:Nat
 ver:Nat
 fx:Nat
def gd (d : Nat) (op : Op) (j : Nat) (b : Bool) : Oper := ⟨some d, op, 0, "", #[], some (j, b)⟩
def bi (d : Option Nat) (b : Builtin) (args : List Operand) (tys : List Nat) (ty : Nat) : Oper := ⟨d, .call ⟨.builtin b, args.toArray, tys.toArray⟩, ty, "", #[], none⟩
def cl (d:Option Nat) (f:Nat) (args:List Operand):Oper:=mk d (.call ⟨.value (.func f),args.toArray,#[]⟩)
def ki (k:IntKind) (x:Int):Operand:=.const (.int k x)
section
variable {P:Program}
theorem then_ne {K:Act->World->Prop} {Q:Exit->Act->World->Prop} {e:Exit} {a:Act} {w:World} (he:e ≠ .normal):Exit.then K Q e a w=Q e a w:=by
 cases e <;> first | rfl | exact absurd rfl he
structure VarIs (P:Program) (F:Nat) (agg:Bool) (sz:Nat):Prop where
 agg:∀ w,(isAgg F).run P w=.ok agg w
 size:∀ w,(sizeOf F).run P w=.ok sz w
structure FldIs (P:Program) (T k F off:Nat) (agg:Bool) (sz:Nat):Prop where
 fld:∃ fs f,P.underlying T=some (.struct fs)/\fs[k]?=some f/\f.offset=off/\f.type=F
 var:VarIs P F agg sz
 pos:0 < sz
variable {x m k0 n:Nat} {K:Act->World->Prop} {Q:Exit->Act->World->Prop} {a:Act} {w:World}
theorem wl_fld {ops:Array Oper} {Q:Exit->Act->World->Prop} {r:List Oper} {d:Option Nat} {y:Operand} {T k F B O off sz:Nat} {agg:Bool} (hy:a.eval y=.pointer (some ⟨B,O,none⟩)) (hF:FldIs P T k F off agg sz)
  (h:wpList P ops Q r (a.put d (.pointer (some ⟨B,O + off,none⟩))) w):wpList P ops Q (mk d (.fieldAddr T y k) :: r) a w:=by
 obtain ⟨fs,f,h1,h2,h3,h4⟩:=hF.fld
 obtain ⟨q,rfl⟩:∃ q,sz=q + 1:=⟨sz - 1,by have:=hF.pos;omega⟩
 exact wl_fieldAddr (n:=q) hy h1 h2 h3 (fun w=>by rw [h4];exact hF.var.size w) h
end
def pt (b o:Nat):Value:=.pointer (some ⟨b,o,none⟩)
section
variable {P:Program} {x m k0 n:Nat} {K:Act->World->Prop} {Q:Exit->Act->World->Prop} {a:Act} {w:World}
theorem run_cmp {op:BinOp} {T:TypeId} {k:IntKind} {p q:Int} {b:Bool} (h:(op=.geq/\b=decide (q<=p)) \/ (op=.leq/\b=decide (p<=q)) \/ (op=.lss/\b=decide (p < q)) \/ (op=.gtr/\b=decide (q < p)) \/ (op=.eql/\b=decide (p=q)) \/ (op=.neq/\b=decide (p ≠ q))) :
  (binOp op T (.int k p) (.int k q)).run P w=.ok (.bool b) w:=by
 rcases h with ⟨rfl,rfl⟩ | ⟨rfl,rfl⟩ | ⟨rfl,rfl⟩ | ⟨rfl,rfl⟩ | ⟨rfl,rfl⟩ | ⟨rfl,rfl⟩ <;> simp [binOp,Op.intCmp]
 ·exact Bool.beq_eq_decide_eq p q
 ·simp [bne,Bool.beq_eq_decide_eq]
theorem wl_cmp {ops:Array Oper} {Q:Exit->Act->World->Prop} {r:List Oper} {d:Option Nat} {op:BinOp} {T:TypeId} {y z:Operand} {k:IntKind} {p q:Int} {b:Bool} (hy:a.eval y=.int k p) (hz:a.eval z=.int k q)
  (hb:(op=.geq/\b=decide (q<=p)) \/ (op=.leq/\b=decide (p<=q)) \/ (op=.lss/\b=decide (p < q)) \/ (op=.gtr/\b=decide (q < p)) \/ (op=.eql/\b=decide (p=q)) \/ (op=.neq/\b=decide (p ≠ q)))
  (h:wpList P ops Q r (a.put d (.bool b)) w):wpList P ops Q (mk d (.binOp op T y z 0) :: r) a w:=
 wl_bin hy hz (by rcases hb with ⟨rfl,_⟩ | ⟨rfl,_⟩ | ⟨rfl,_⟩ | ⟨rfl,_⟩ | ⟨rfl,_⟩ | ⟨rfl,_⟩ <;> simp) (run_cmp hb) h
theorem yielded_of {ops:Array Oper} {j d:Nat} {o:Oper} {b:Bool} (ho:ops[j]?=some o) (hd:o.dst=some d) (hs:d < a.tmps.size) (hg:a.get d=.bool b):yielded ops a.tmps j=some b:=by
 have:a.tmps[d]?=some (.bool b):=by
  rw [<- hg]
  simp [Act.get,hs]
 simp [yielded,ho,hd,this]
theorem wg_run {ops : Array Oper} {Q : Exit -> Act -> World -> Prop} {r : List Oper} {d j : Nat} {op : Op} {b : Bool} (hy : yielded ops a.tmps j = some b) (h : (⟨some d, op, 0, "", #[], some (j, b)⟩ : Oper).wp P a w (wpList P ops Q r) Q) :
  wpList P ops Q (gd d op j b :: r) a w:=by
 unfold wpList gd
 rw [if_pos (by simp [Region.wanted,hy])]
 exact .inl h
theorem wg_value {ops:Array Oper} {Q:Exit->Act->World->Prop} {r:List Oper} {d j:Nat} {op:Op} {b:Bool} {v:Value} (hy:yielded ops a.tmps j=some b) (hrun:(execOp a.eval (mk (some d) op)).run P w=.ok (.value v) w)
  (h:wpList P ops Q r (a.put (some d) v) w):wpList P ops Q (gd d op j b :: r) a w:=by
 refine wg_run hy ?_
 unfold Oper.wp
 have : execOp a.eval (⟨some d, op, 0, "", #[], some (j, b)⟩ : Oper) = execOp a.eval (mk (some d) op) := by
  simp only [execOp,mk]
 rw [this,hrun]
 exact h
theorem wl_pick {ops:Array Oper} {Q:Exit->Act->World->Prop} {r:List Oper} {d:Option Nat} {c y z:Operand} {b:Bool} (hc:a.eval c=.bool b) (h:wpList P ops Q r (a.put d (if b then a.eval y else a.eval z)) w):wpList P ops Q (mk d (.pick c y z) :: r) a w:=by
 refine qn_ ?_ h
 simp [execOp,mk,hc,asBool]
end
end Go.Proofs.YtbacpeilgfmblaaDoor.Kx
