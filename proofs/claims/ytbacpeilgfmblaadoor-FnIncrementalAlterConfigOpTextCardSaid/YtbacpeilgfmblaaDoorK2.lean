/-
  PLAIN LAWS AND CONTRACTS of messages, part 2 of 8: how readers and writers are printed, what they do, what the reference writes, and that what is written is read as the same. Nothing of a statement stands here.
-/
import Derived.Test.YtbacpeilgfmblaaDoorK1

namespace Go.Proofs.YtbacpeilgfmblaaDoor.Kx
open Go
structure Evo (R B:Nat) (Z:Nat->Prop) (w w':World):Prop where
 keeps:Keeps (fun k=>k=R \/ k=B) w w'
 blk:∀ cs te,w.heap[B]?=some (.cells cs te (0,0))->∃ cs',w'.heap[B]?=some (.cells cs' te (0,0))/\cs'.size=cs.size/\∀ j,¬ Z j->cs'[j]?=cs[j]?
theorem Evo.trans {R B:Nat} {Z:Nat->Prop} {a b c:World} (h:Evo R B Z a b) (k:Evo R B Z b c):Evo R B Z a c:=
 ⟨h.keeps.trans k.keeps,fun cs te hc=>by
  obtain ⟨c1,h1,h2,h3⟩:=h.blk cs te hc
  obtain ⟨c2,k1,k2,k3⟩:=k.blk c1 te h1
  exact ⟨c2,k1,k2.trans h2,fun j hj=>(k3 j hj).trans (h3 j hj)⟩⟩
theorem Evo.mono {R B:Nat} {Z Z':Nat->Prop} {a b:World} (h:Evo R B Z a b) (hz:∀ j,Z j->Z' j):Evo R B Z' a b:=
 ⟨h.keeps,fun cs te hc=>by
  obtain ⟨c1,k1,k2,k3⟩:=h.blk cs te hc
  exact ⟨c1,k1,k2,fun j hj=>k3 j fun hh=>hj (hz j hh)⟩⟩
theorem Evo.cell {R B:Nat} {Z:Nat->Prop} {w w':World} (h:Evo R B Z w w') {cs:Array Value} {te:TypeId} (hB:w.heap[B]?=some (.cells cs te (0,0))) {j:Nat} (hj:¬ Z j):w'.cell? ⟨B,j,none⟩=w.cell? ⟨B,j,none⟩:=by
 obtain ⟨c1,k1,_,k3⟩:=h.blk cs te hB
 simp [World.cell?,hB,k1,k3 j hj]
def Far (w0:World) (S:Nat) (T:(Nat->Prop)->Prop):Prop:=∀ X:Nat->Prop,(∀ k,X k->k < w0.heap.size)->¬ X S->T X
theorem Rp.evo {w0:World} {S R B:Nat} {Z:Nat->Prop} {w w':World} (h:Evo R B Z w w') (hR:R < w0.heap.size) (hB0:B < w0.heap.size) (hRS:R ≠ S) (hBS:B ≠ S) {ty:Ty} {o:Nat} {v:V} (hv:Far w0 S fun X=>Rp w X ty B o v)
  (hd:∀ j,o<=j->j < o + ty.sz->¬ Z j) {cs:Array Value} {te:TypeId} (hB:w.heap[B]?=some (.cells cs te (0,0))):Far w0 S fun X=>Rp w' X ty B o v:=by
 intro X hX hS
 have h1:=hv (fun k=>X k \/ k=R \/ k=B) (fun k hk=>by rcases hk with hk | rfl | rfl <;> first | exact hX k hk | assumption) (fun hk=>by rcases hk with hk | hk | hk <;> first | exact hS hk | exact hRS hk.symm | exact hBS hk.symm)
 have h2:=Rp.frame (h.keeps.mono fun k _ hk=>.inr hk) ty B o v h1 fun j h3 h4=>h.cell hB (hd j h3 h4)
 exact Rp.mono (fun k _ hk=>.inl hk) ty B o v h2
section
variable {P:Program} {g:G} {av:PF->Bool} {fl:Bool} {cx:Cx} {fx:Bool} {ver:Int} {S R B O:Nat} {r:RS} {m k0 n:Nat} {Q:Exit->Act->World->Prop} {a:Act} {w:World}
end
def Rt (N E:Act->World->Prop):Exit->Act->World->Prop
 | .normal,a,w=>N a w
 | .ret,a,w=>E a w
 | _,_,_=>False
section
variable {P:Program} {g:G} {m k0 n:Nat} {K N E:Act->World->Prop} {a:Act} {w:World}
variable {av:PF->Bool} {fl:Bool} {cx:Cx} {fx:Bool} {ver:Int} {S R B O:Nat} {r:RS}
structure RowIs (P:Program) (F E' sz:Nat) (z:Array Value):Prop where
 und:P.underlying F=some (.slice E')
 info:∃ i z',P.info? E'=some i/\i.zero=some z'/\z'.cells=z/\i.size=sz/\z.size=sz/\0 < sz/\0 < i.bytes/\i.bytes<=24 * sz + 8
theorem RowIs.size {F E' sz:Nat} {z:Array Value} (h:RowIs P F E' sz z) (w:World):(sizeOf E').run P w=.ok sz w:=by
 obtain ⟨i,z',h1,_,_,h4,_⟩:=h.info
 simp [Go.sizeOf,typeInfo,h1,h4]
end
section
variable {P:Program} {g:G} {av:PF->Bool} {fl:Bool} {cx:Cx} {fx:Bool} {ver:Int} {S R B O:Nat} {r:RS} {x m k0 n:Nat} {K N E:Act->World->Prop} {Q:Exit->Act->World->Prop} {a:Act} {w:World}
theorem qr_ (w:World) (o:Obj):(w.alloc o).heap[w.heap.size]?=some o:=heap_alloc_new w o
theorem heap_alloc_old {w:World} {o:Obj} {b:Nat} (h:b < w.heap.size):(w.alloc o).heap[b]?=w.heap[b]?:=by
 show (w.heap.push o)[b]?=_
 rw [Array.getElem?_push,if_neg (by omega)]
end
def aggD:TypeDesc->Bool
 | .struct _ | .array _ _=>true
 | _=>false
def varB (P:Program) (F:Nat) (agg:Bool) (sz:Nat):Bool:=
 match P.underlying F,P.info? F with
 | some d,some i=>(aggD d == agg) && (i.size == sz)
 | _,_=>false
theorem varB_ok {P:Program} {F:Nat} {agg:Bool} {sz:Nat} (h:varB P F agg sz=true):VarIs P F agg sz:=by
 unfold varB at h
 split at h
 ·rename_i d i hd hi
  simp only [Bool.and_eq_true,beq_iff_eq] at h
  have ht:TyIs P F d sz:=⟨hd,i,hi,h.2⟩
  refine ⟨fun w=>?_,fun w=>ht.sizeOf w⟩
  rw [ht.isAgg w,<- h.1]
  cases d <;> rfl
 ·cases h
def fldB (P:Program) (T k F off:Nat) (agg:Bool) (sz:Nat):Bool:=
 (match P.underlying T with
  | some (.struct fs)=>(match fs[k]? with | some f=>(f.offset == off) && (f.type == F) | none=>false)
  | _=>false) && varB P F agg sz && decide (0 < sz)
theorem fldB_ok {P:Program} {T k F off:Nat} {agg:Bool} {sz:Nat} (h:fldB P T k F off agg sz=true):FldIs P T k F off agg sz:=by
 simp only [fldB,Bool.and_eq_true,decide_eq_true_eq] at h
 obtain ⟨⟨h1,h2⟩,h3⟩:=h
 split at h1
 ·rename_i fs hfs
  split at h1
  ·rename_i f hf
   simp only [Bool.and_eq_true,beq_iff_eq] at h1
   exact ⟨⟨fs,f,hfs,hf,h1.1,h1.2⟩,varB_ok h2,h3⟩
  ·cases h1
 ·cases h1
def Fds.In:Fds->Nat->Nat->Prop
 | .nil,_,_=>False
 | .cons _ _ _ _ off ty r,O,j=>(O + off<=j/\j < O + off + ty.sz) \/ r.In O j
def offBy:Fds->Nat->Nat->Bool
 | .nil,_,_=>true
 | .cons _ _ _ _ off ty r,lo,hi=>(decide (off + ty.sz<=lo) || decide (hi<=off)) && offBy r lo hi
def disjF:Fds->Bool
 | .nil=>true
 | .cons _ _ _ _ off ty r=>offBy r off (off + ty.sz) && disjF r
def Fds.plain:Fds->Bool
 | .nil=>true
 | .cons lo hi tag _ _ ty r=>(lo == 0) && hi.isNone && tag.isNone && ty.leaf && r.plain
def FarA (A:Nat->Prop) (S:Nat) (T:(Nat->Prop)->Prop):Prop:=∀ X:Nat->Prop,(∀ k,X k->A k)->¬ X S->T X
theorem FarA.mono {A A':Nat->Prop} {S:Nat} {T:(Nat->Prop)->Prop} (h:FarA A S T) (ha:∀ k,A' k->A k):FarA A' S T:=fun X hX hS=>h X (fun k hk=>ha k (hX k hk)) hS
def Blk (w:World) (B n te:Nat):Prop:=∃ cur,w.heap[B]?=some (.cells cur te (0,0))/\n<=cur.size
theorem Blk.evo {R B n te:Nat} {Z:Nat->Prop} {w w':World} (h:Evo R B Z w w') (hb:Blk w B n te):Blk w' B n te:=by
 obtain ⟨cur,h1,h2⟩:=hb
 obtain ⟨cs,h3,h4,_⟩:=h.blk cur te h1
 exact ⟨cs,h3,by omega⟩
theorem Blk.mono {w:World} {B n n' te:Nat} (h:Blk w B n te) (hn:n'<=n):Blk w B n' te:=by
 obtain ⟨cur,h1,h2⟩:=h
 exact ⟨cur,h1,by omega⟩
section evo
variable {A:Nat->Prop} {S R B O n te:Nat} {Z:Nat->Prop} {w w':World}
end evo
section
variable (P:Program) (g:G) (av:PF->Bool) (fl:Bool) (D:Nat->Option (List (Nat × Value)))
end
section
variable {P:Program} {g:G} {av:PF->Bool} {fl:Bool} {D:Nat->Option (List (Nat × Value))}
end
section
variable {P:Program} {g:G} {av:PF->Bool} {fl:Bool} {D:Nat->Option (List (Nat × Value))}
def behind (r:RS):RS:=(rSpan (rUv r).1 (rUv r).2).2
end
section
variable (P:Program) (g:G) (av:PF->Bool) (fl:Bool) (D:Nat->Option (List (Nat × Value)))
end
section
variable {P:Program} {g:G} {av:PF->Bool} {fl:Bool} {D:Nat->Option (List (Nat × Value))}
end
def TgNil (w:World) (B O:Nat) (toff:Option Nat):Prop:=match toff with | some k=>w.cell? ⟨B,O + k,none⟩=some (.map none) | none=>True
theorem TgNil.at {w:World} {B O:Nat} {toff:Option Nat} (h:TgNil w B O toff) (X:Nat->Prop):TgAt w X B O toff []:=by
 cases toff with
 | none=>rfl
 | some k=>exact ⟨_,h,.inl ⟨rfl,rfl⟩⟩
section
variable (P:Program) (g:G) (av:PF->Bool) (fl:Bool) (D:Nat->Option (List (Nat × Value)))
end
section
variable {P:Program} {g:G} {av:PF->Bool} {fl:Bool} {D:Nat->Option (List (Nat × Value))}
end
end Go.Proofs.YtbacpeilgfmblaaDoor.Kx
