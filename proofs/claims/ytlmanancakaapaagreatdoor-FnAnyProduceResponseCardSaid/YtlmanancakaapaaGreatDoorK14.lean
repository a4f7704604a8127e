/-
  PLAIN LAWS AND CONTRACTS of messages, part 14 of 15: how readers and writers are printed, what they do, what the reference writes, and that what is written is read as the same. Nothing of a statement stands here.
-/
import Derived.Test.YtlmanancakaapaaGreatDoorK1
import Derived.Test.YtlmanancakaapaaGreatDoorK2
import Derived.Test.YtlmanancakaapaaGreatDoorK3
import Derived.Test.YtlmanancakaapaaGreatDoorK4
import Derived.Test.YtlmanancakaapaaGreatDoorK7
import Derived.Test.YtlmanancakaapaaGreatDoorK9
import Derived.Test.YtlmanancakaapaaGreatDoorK12
import Derived.KernelRfl

namespace Go.Proofs.YtlmanancakaapaaGreatDoor.Kx
open Go
def Fa0 (w0 w:World):Prop:=Keeps (fun k=>w0.heap.size<=k) w0 w
theorem Fa0.kn {w0 w w':World} (h:Fa0 w0 w) (k:Keeps (fun _=>False) w w'):Fa0 w0 w':=Keeps.trans h (k.mono fun _ _ h=>h.elim)
theorem Fa0.cell {w0 w:World} (h:Fa0 w0 w) {b o:Nat} {v:Value} (hv:w0.cell? ⟨b,o,none⟩=some v):w.cell? ⟨b,o,none⟩=some v:=
 Keeps.cell h (by have:=j2_ hv;omega) hv
theorem Fa0.cells {w0 w:World} (h:Fa0 w0 w) {b o:Nat} {cs:List Value} (hv:qy_ w0 b o cs):qy_ w b o cs:=fun j c hj=>h.cell (hv j c hj)
theorem qy_.kn {w w':World} (k:Keeps (fun _=>False) w w') {b o:Nat} {cs:List Value} (hv:qy_ w b o cs):qy_ w' b o cs:=fun j c hj=>k.cell id (hv j c hj)
def RowRp {α:Type} (w:World) (sz:Nat) (El:List Value->α->Prop) (v:Value) (xs:List α):Prop:=
 (∃ base,v=.slice base 0 0/\xs=[]) \/ ∃ b o c,v=.slice (some ⟨b,o,none⟩) xs.length c/\xs.length<=c/\c<=maxLen/\∀ i x,xs[i]?=some x->∃ cs,cs.length=sz/\qy_ w b (o + i * sz) cs/\El cs x
def OcX (w:World) (X:Nat->Prop) (v:Value) (l:Bs):Prop:=(∃ base,v=.slice base 0 0/\l=[]) \/ SlRp w X v l
abbrev OcRp (w:World) (v:Value) (l:Bs):Prop:=OcX w (fun _=>False) v l
def TagRp (w:World) (cs:List Value) (p:UInt32 × Bs):Prop:=∃ v,cs=[.int .u32 (p.1.toNat:Int),v]/\OcRp w v p.2
def Tr.raw:Tr->List (UInt32 × Bs) | .mk _ _ _ _ u=>u
def TrRp (w:World):Nat->List Value->Tr->Prop
 | 0,_,_=>False
 | k + 1,cs,t=>∃ sv lv uv,cs=[.int .i64 t.num,sv,.bool t.null,lv,uv]/\OcRp w sv t.octets/\RowRp w 5 (TrRp w k) lv t.list/\RowRp w 2 (TagRp w) uv t.raw
theorem RowRp.imp {α:Type} {w w':World} {sz:Nat} {El El':List Value->α->Prop} {v:Value} {xs:List α} (h:RowRp w sz El v xs) (hc:∀ b o cs,qy_ w b o cs->qy_ w' b o cs) (he:∀ cs x,El cs x->El' cs x):RowRp w' sz El' v xs:=by
 rcases h with h | ⟨b,o,c,h1,h2,h3,h4⟩
 ·exact .inl h
 ·exact .inr ⟨b,o,c,h1,h2,h3,fun i x hx=>by obtain ⟨cs,a1,a2,a3⟩:=h4 i x hx;exact ⟨cs,a1,hc _ _ _ a2,he _ _ a3⟩⟩
theorem SlRp.far {w0 w:World} (h:Fa0 w0 w) {v:Value} {l:Bs} (hs:SlRp w0 (fun _=>False) v l):SlRp w (fun _=>False) v l:=
 SlRp.mono ((hs.mono (Y:=fun k=>w0.heap.size<=k) fun k hk hX=>by omega).keep h) fun _ _ h=>h.elim
theorem OcX.mono {w:World} {X Y:Nat->Prop} {v:Value} {l:Bs} (h:OcX w X v l) (hy:∀ k,k < w.heap.size->Y k->X k):OcX w Y v l:=h.imp id fun h=>h.mono hy
theorem OcX.far {w0 w:World} {v:Value} {l:Bs} (hs:OcRp w0 v l) (h:Fa0 w0 w):OcRp w v l:=hs.imp id fun hs=>hs.far h
theorem TagRp.far {w0 w:World} (h:Fa0 w0 w) {cs:List Value} {p:UInt32 × Bs} (hs:TagRp w0 cs p):TagRp w cs p:=by
 obtain ⟨v,h1,h2⟩:=hs
 exact ⟨v,h1,h2.far h⟩
theorem TrRp.far {w0 w:World} (h:Fa0 w0 w):∀ {k:Nat} {cs:List Value} {t:Tr},TrRp w0 k cs t->TrRp w k cs t
 | 0,_,_,hs=>hs.elim
 | _ + 1,_,_,hs=>by
  obtain ⟨sv,lv,uv,h1,h2,h3,h4⟩:=hs
  exact ⟨sv,lv,uv,h1,h2.far h,h3.imp (fun _ _ _=>h.cells) (fun _ _ h5=>TrRp.far h h5),h4.imp (fun _ _ _=>h.cells) (fun _ _ h5=>h5.far h)⟩
theorem TrRp.len {w:World}:∀ {k:Nat} {cs:List Value} {t:Tr},TrRp w k cs t->cs.length=5
 | 0,_,_,hs=>hs.elim
 | _ + 1,_,_,hs=>by obtain ⟨sv,lv,uv,rfl,_⟩:=hs;rfl
def SFs.len:SFs->Nat
 | .nil=>0
 | .cons _ _ _ _ _ _ _ _ r=>r.len + 1
section
variable {P:Program} {S:SN}
variable {ops:Array Oper} {Q:Exit->Act->World->Prop} {r:List Oper} {n:Nat} {a:Act} {w:World} {l:List (Nat × Value)}
variable {I:World->Prop} {K:Act->Prop}
end
set_option maxRecDepth 4000
def ixs0:Nat->List Value->List (Nat × Value)
 | _,[]=>[]
 | i,v :: r=>(i,v) :: ixs0 (i + 1) r
theorem ixs0_lookup:∀ (l:List Value) (i j:Nat) (v:Value),(ixs0 i l).lookup j=some v->i<=j/\l[j - i]?=some v
 | [],_,_,_,h=>by cases h
 | x :: r,i,j,v,h=>by
  simp only [ixs0,List.lookup_cons] at h
  by_cases hj:j=i
  ·subst hj
   simp only [beq_self_eq_true] at h
   exact ⟨Nat.le_refl _,by simpa using h⟩
  ·have:(j == i)=false:=by simp [hj]
   rw [this] at h
   obtain ⟨h1,h2⟩:=ixs0_lookup r (i + 1) j v h
   refine ⟨by omega,?_⟩
   rw [show j - i=(j - (i + 1)) + 1 by omega]
   simpa using h2
section
variable {P:Program} {S:SN}
theorem callsT (hm:P.follows .mixedOrders=true) {f ntmps:Nat} {res:List Nat} {c:Code} {w:World} {RR:Ending->World->Prop} (hfn:FnIs P f ntmps res c) (hl:res.length<=2) (args:List Value) (hnt:args.length<=ntmps)
  (h:∀ a,St ntmps a (ixs0 0 args)->NWP P c (Rt (fun a' w'=>a'.defers=[]/\RR (.returned (zl_ res a')) w') (fun a' w'=>a'.defers=[]/\RR (.returned (zl_ res a')) w')) a w):Calls P f args.toArray w RR:=
 callsA hm hfn hl args hnt fun a harg hs hd=>h a ⟨hs,hd,fun i v hi=>by
  obtain ⟨_,h2⟩:=ixs0_lookup args 0 i v hi
  exact harg i v (by simpa using h2)⟩
theorem ret1 {n t:Nat} {a:Act} {w:World} {l:List (Nat × Value)} {v:Value} {RR:Ending->World->Prop} (h:St n a l) (hv:l.lookup t=some v) (hR:RR (.returned v) w):a.defers=[]/\RR (.returned (zl_ [t] a)) w:=
 ⟨h.defers,by rw [zd_,h.get t v hv];exact hR⟩
end
end Go.Proofs.YtlmanancakaapaaGreatDoor.Kx

namespace Go.Proofs.YtlmanancakaapaaGreatDoor.Kx
open Go
set_option maxRecDepth 4000
section
variable {P:Program} {S:SN}
section
variable {ops:Array Oper} {Q:Exit->Act->World->Prop} {r:List Oper} {n:Nat} {a:Act} {w:World} {l:List (Nat × Value)}
end
section
variable {ops:Array Oper} {Q:Exit->Act->World->Prop} {r:List Oper} {n:Nat} {a:Act} {w:World} {l:List (Nat × Value)}
theorem sg_fld (h:St n a l) {d j jd:Nat} {x:Operand} {b:Bool} {o:Oper} {TT k F B O off sz:Nat} {agg:Bool} (ho:ops[j]?=some o) (hod:o.dst=some jd) (hj:l.lookup jd=some (.bool b)) (hjn:jd < n) (hx:Hd l x (pt B O)) (hF:zj_ P TT k F off agg sz) (hd:d < n) (c:∀ a',St n a' ((d,pt B (O + off)) :: l)->wpList P ops Q r a' w) :
  wpList P ops Q (gd d (.fieldAddr TT x k) j b :: r) a w:=by
 obtain ⟨fs,f,h1,h2,h3,h4⟩:=hF.fld
 obtain ⟨q,rfl⟩:∃ q,sz=q + 1:=⟨sz - 1,by have:=hF.pos;omega⟩
 have e:=hx n a h
 simp only [pt] at e
 have hn:∀ w,(sizeOf f.type).run P w=.ok (q + 1) w:=fun w=>by rw [h4];exact hF.var.size w
 refine st_gd h ho hod hj hjn ?_ hd c
 simp [execOp,mk,e,Instr.fieldAt,run_underlying h1,h2,h3,fieldPlace,hn,Instr.sureAddr,Addr.add_lit,pt]
theorem sg_load1 (h:St n a l) {d j jd:Nat} {x:Operand} {b:Bool} {o:Oper} {F B O sz:Nat} {v:Value} (ho:ops[j]?=some o) (hod:o.dst=some jd) (hj:l.lookup jd=some (.bool b)) (hjn:jd < n) (hx:Hd l x (pt B O)) (hF:jp_ P F false sz) (hv:w.cell? ⟨B,O,none⟩=some v) (hd:d < n) (c:∀ a',St n a' ((d,v) :: l)->wpList P ops Q r a' w) :
  wpList P ops Q (gd d (.load F x) j b :: r) a w:=by
 have e:=hx n a h
 simp only [pt] at e
 refine st_gd h ho hod hj hjn ?_ hd c
 simp [execOp,mk,e,Instr.loadAt,Instr.sureAddr,loadVar,hF.agg w,load,hv,Sem.run]
theorem sg_cmp (h:St n a l) {d j jd:Nat} {x y:Operand} {b:Bool} {o:Oper} {op:BinOp} {T:Nat} {k:IntKind} {p q:Int} (ho:ops[j]?=some o) (hod:o.dst=some jd) (hj:l.lookup jd=some (.bool b)) (hjn:jd < n) (hc:isCmp op=true) (hx:Hd l x (.int k p)) (hy:Hd l y (.int k q)) (hd:d < n) (c:∀ a',St n a' ((d,.bool (cmpB op p q)) :: l)->wpList P ops Q r a' w) :
  wpList P ops Q (gd d (.binOp op T x y 0) j b :: r) a w:=by
 refine st_gd h ho hod hj hjn ?_ hd c
 have he:(eqGuard op T x y (.int k p) (.int k q)).run P w=.ok () w:=by
  unfold eqGuard
  cases op <;> simp
 simp only [execOp,mk,hx n a h,hy n a h,Sem.run_bind,he,Result.andThen_ok,run_cmp (cmpB_ok hc p q),Sem.run_pure]
end
theorem qy_.at {w:World} {b o j:Nat} {cs:List Value} {v:Value} (h:qy_ w b o cs) (hj:cs[j]?=some v):w.cell? ⟨b,o + j,none⟩=some v:=h j v hj
end
end Go.Proofs.YtlmanancakaapaaGreatDoor.Kx

namespace Go.Proofs.YtlmanancakaapaaGreatDoor.Kx
open Go
set_option maxRecDepth 4000
section
variable {P:Program} {S:SN}
section
variable {ops:Array Oper} {Q:Exit->Act->World->Prop} {r:List Oper} {n:Nat} {a:Act} {w:World} {l:List (Nat × Value)}
end
theorem callsTC (hm:P.follows .mixedOrders=true) {f n s t:Nat} {c:Code} {w:World} {RR:Ending->World->Prop} (hfn:FnIsC P f n s t c) (args:List Value) (hnt:args.length<=n)
  (h:∀ a,St n a (ixs0 0 args)->NWP P c (Rt (fun _ _=>False) (fun a w=>a.defers=[]/\∃ p v,a.get s=.pointer (some p)/\(loadVar t p).run P w=.ok v w/\RR (.returned v) w)) a w):Calls P f args.toArray w RR:=by
 refine hfn.calls hm (h _ ⟨jo_ args.toArray n (by simpa using hnt),rfl,fun i v hi=>?_⟩)
 obtain ⟨_,h2⟩:=ixs0_lookup args 0 i v hi
 have h2:args[i]?=some v:=by simpa using h2
 have hlt:i < args.length:=(List.getElem?_eq_some_iff.1 h2).1
 rw [ja_ _ _ _ (by simpa using hlt)]
 have:=(List.getElem?_eq_some_iff.1 h2).2
 simpa using this
theorem RowRp.get {α:Type} {w:World} {sz:Nat} {El:List Value->α->Prop} {v:Value} {xs:List α} (h:RowRp w sz El v xs) {i:Nat} {x:α} (hi:xs[i]?=some x):∃ b o c cs,v=.slice (some ⟨b,o,none⟩) xs.length c/\cs.length=sz/\qy_ w b (o + i * sz) cs/\El cs x:=by
 rcases h with ⟨_,_,rfl⟩ | ⟨b,o,c,rfl,_,_,h3⟩
 ·simp at hi
 ·obtain ⟨cs,a1,a2,a3⟩:=h3 i x hi
  exact ⟨b,o,c,cs,rfl,a1,a2,a3⟩
end
end Go.Proofs.YtlmanancakaapaaGreatDoor.Kx
