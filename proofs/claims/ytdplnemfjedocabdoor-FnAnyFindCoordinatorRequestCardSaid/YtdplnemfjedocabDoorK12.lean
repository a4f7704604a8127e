/-
  PLAIN LAWS AND CONTRACTS of messages, part 12 of 14: how readers and writers are printed, what they do, what the reference writes, and that what is written is read as the same. Nothing of a statement stands here.
-/
import Derived.Test.YtdplnemfjedocabDoorK1
import Derived.Test.YtdplnemfjedocabDoorK2
import Derived.Test.YtdplnemfjedocabDoorK8
import Derived.KernelRfl

namespace Go.Proofs.YtdplnemfjedocabDoor.Kx
open Go
def Fa0 (w0 w:World):Prop:=Keeps (fun k=>w0.heap.size<=k) w0 w
theorem Fa0.kn {w0 w w':World} (h:Fa0 w0 w) (k:Keeps (fun _=>False) w w'):Fa0 w0 w':=Keeps.trans h (k.mono fun _ _ h=>h.elim)
theorem Fa0.cell {w0 w:World} (h:Fa0 w0 w) {b o:Nat} {v:Value} (hv:w0.cell? ⟨b,o,none⟩=some v):w.cell? ⟨b,o,none⟩=some v:=
 Keeps.cell h (by have:=j8_ hv;omega) hv
theorem Fa0.cells {w0 w:World} (h:Fa0 w0 w) {b o:Nat} {cs:List Value} (hv:qw_ w0 b o cs):qw_ w b o cs:=fun j c hj=>h.cell (hv j c hj)
theorem Fa0.of {w0 w:World} (h:Keeps (fun _=>False) w0 w):Fa0 w0 w:=h.mono fun _ _ h=>h.elim
theorem qw_.kn {w w':World} (k:Keeps (fun _=>False) w w') {b o:Nat} {cs:List Value} (hv:qw_ w b o cs):qw_ w' b o cs:=fun j c hj=>k.cell id (hv j c hj)
def RowRp {α:Type} (w:World) (sz:Nat) (El:List Value->α->Prop) (v:Value) (xs:List α):Prop:=
 (∃ base,v=.slice base 0 0/\xs=[]) \/ ∃ b o c,v=.slice (some ⟨b,o,none⟩) xs.length c/\xs.length<=c/\c<=maxLen/\∀ i x,xs[i]?=some x->∃ cs,cs.length=sz/\qw_ w b (o + i * sz) cs/\El cs x
def OcX (w:World) (X:Nat->Prop) (v:Value) (l:Bs):Prop:=(∃ base,v=.slice base 0 0/\l=[]) \/ SlRp w X v l
abbrev OcRp (w:World) (v:Value) (l:Bs):Prop:=OcX w (fun _=>False) v l
def TagRp (w:World) (cs:List Value) (p:UInt32 × Bs):Prop:=∃ v,cs=[.int .u32 (p.1.toNat:Int),v]/\OcRp w v p.2
def Tr.raw:Tr->List (UInt32 × Bs) | .mk _ _ _ _ u=>u
def TrRp (w:World):Nat->List Value->Tr->Prop
 | 0,_,_=>False
 | k + 1,cs,t=>∃ sv lv uv,cs=[.int .i64 t.num,sv,.bool t.null,lv,uv]/\OcRp w sv t.octets/\RowRp w 5 (TrRp w k) lv t.list/\RowRp w 2 (TagRp w) uv t.raw
theorem RowRp.imp {α:Type} {w w':World} {sz:Nat} {El El':List Value->α->Prop} {v:Value} {xs:List α} (h:RowRp w sz El v xs) (hc:∀ b o cs,qw_ w b o cs->qw_ w' b o cs) (he:∀ cs x,El cs x->El' cs x):RowRp w' sz El' v xs:=by
 rcases h with h | ⟨b,o,c,h1,h2,h3,h4⟩
 ·exact .inl h
 ·exact .inr ⟨b,o,c,h1,h2,h3,fun i x hx=>by obtain ⟨cs,a1,a2,a3⟩:=h4 i x hx;exact ⟨cs,a1,hc _ _ _ a2,he _ _ a3⟩⟩
theorem SlRp.far {w0 w:World} (h:Fa0 w0 w) {v:Value} {l:Bs} (hs:SlRp w0 (fun _=>False) v l):SlRp w (fun _=>False) v l:=
 SlRp.mono ((hs.mono (Y:=fun k=>w0.heap.size<=k) fun k hk hX=>by omega).keep h) fun _ _ h=>h.elim
theorem OcX.mono {w:World} {X Y:Nat->Prop} {v:Value} {l:Bs} (h:OcX w X v l) (hy:∀ k,k < w.heap.size->Y k->X k):OcX w Y v l:=h.imp id fun h=>h.mono hy
theorem OcX.far {w0 w:World} {v:Value} {l:Bs} (hs:OcRp w0 v l) (h:Fa0 w0 w):OcRp w v l:=hs.imp id fun hs=>hs.far h
theorem TagRp.far {w0 w:World} (h:Fa0 w0 w) {cs:List Value} {p:UInt32 × Bs} (hs:TagRp w0 cs p):TagRp w cs p:=by
 obtain ⟨v,h1,h2⟩:=hs
 exact ⟨v,h1,h2.far h⟩
theorem TrRp.far {w0 w:World} (h:Fa0 w0 w):∀ {k:Nat} {cs:List Value} {t:Tr},TrRp w0 k cs t->TrRp w k cs t
 | 0,_,_,hs=>hs.elim
 | _ + 1,_,_,hs=>by
  obtain ⟨sv,lv,uv,h1,h2,h3,h4⟩:=hs
  exact ⟨sv,lv,uv,h1,h2.far h,h3.imp (fun _ _ _=>h.cells) (fun _ _ h5=>TrRp.far h h5),h4.imp (fun _ _ _=>h.cells) (fun _ _ h5=>h5.far h)⟩
theorem TrRp.len {w:World}:∀ {k:Nat} {cs:List Value} {t:Tr},TrRp w k cs t->cs.length=5
 | 0,_,_,hs=>hs.elim
 | _ + 1,_,_,hs=>by obtain ⟨sv,lv,uv,rfl,_⟩:=hs;rfl
def SFs.len:SFs->Nat
 | .nil=>0
 | .cons _ _ _ _ _ _ _ _ r=>r.len + 1
def FsAt (w:World):SFs->Nat->Nat->Prop
 | .nil,_,_=>True
 | .cons kind lo hi nul tag df of sub r,b,o=>
  (∃ sv,qw_ w b o [.int .i64 (kind:Int),.int .i64 lo,.int .i64 hi,.int .i64 nul,.int .i64 tag,.int .i64 df,.int .i64 (of:Int),sv] /\
   ((sub=.nil/\sv=nilS) \/ ∃ b' o' c',sv=.slice (some ⟨b',o',none⟩) sub.len c'/\sub.len<=maxLen/\FsAt w sub b' o'))/\FsAt w r b (o + 8)
def FsRp (w:World) (sf:SFs) (v:Value):Prop:=(sf=.nil/\v=nilS) \/ ∃ b o c,v=.slice (some ⟨b,o,none⟩) sf.len c/\sf.len<=maxLen/\FsAt w sf b o
theorem FsAt.imp {w w':World} (hc:∀ b o cs,cs.length=8->qw_ w b o cs->qw_ w' b o cs):∀ (sf:SFs) (b o:Nat),FsAt w sf b o->FsAt w' sf b o
 | .nil,_,_,_=>trivial
 | .cons kind lo hi nul tag df of sub r,b,o,h=>by
  obtain ⟨⟨sv,h1,h2⟩,h3⟩:=h
  refine ⟨⟨sv,hc _ _ _ rfl h1,?_⟩,FsAt.imp hc r b _ h3⟩
  rcases h2 with h2 | ⟨b',o',c',a1,a2,a3⟩
  ·exact .inl h2
  ·exact .inr ⟨b',o',c',a1,a2,FsAt.imp hc sub b' o' a3⟩
theorem FsRp.far {w0 w:World} (h:Fa0 w0 w) {sf:SFs} {v:Value} (hs:FsRp w0 sf v):FsRp w sf v:=by
 rcases hs with hs | ⟨b,o,c,a1,a2,a3⟩
 ·exact .inl hs
 ·exact .inr ⟨b,o,c,a1,a2,a3.imp (fun _ _ _ _=>h.cells) sf b o⟩
def fCells (kind:Nat) (lo hi nul tag df:Int) (of:Nat) (sv:Value):List Value:=[.int .i64 (kind:Int),.int .i64 lo,.int .i64 hi,.int .i64 nul,.int .i64 tag,.int .i64 df,.int .i64 (of:Int),sv]
section
variable {P:Program} {S:SN}
variable {ops:Array Oper} {Q:Exit->Act->World->Prop} {r:List Oper} {n:Nat} {a:Act} {w:World} {l:List (Nat × Value)}
variable {I:World->Prop} {K:Act->Prop}
end
set_option maxRecDepth 4000
section
variable {P:Program} {S:SN}
section
variable {ops:Array Oper} {Q:Exit->Act->World->Prop} {r:List Oper} {n:Nat} {a:Act} {w:World} {l:List (Nat × Value)}
end
section
variable {ops:Array Oper} {Q:Exit->Act->World->Prop} {r:List Oper} {n:Nat} {a:Act} {w:World} {l:List (Nat × Value)}
end
theorem qw_.at {w:World} {b o j:Nat} {cs:List Value} {v:Value} (h:qw_ w b o cs) (hj:cs[j]?=some v):w.cell? ⟨b,o + j,none⟩=some v:=h j v hj
end
end Go.Proofs.YtdplnemfjedocabDoor.Kx

namespace Go.Proofs.YtdplnemfjedocabDoor.Kx
open Go
set_option maxRecDepth 4000
section
variable {P:Program} {S:SN}
section
variable {ops:Array Oper} {Q:Exit->Act->World->Prop} {r:List Oper} {n:Nat} {a:Act} {w:World} {l:List (Nat × Value)}
end
theorem RowRp.get {α:Type} {w:World} {sz:Nat} {El:List Value->α->Prop} {v:Value} {xs:List α} (h:RowRp w sz El v xs) {i:Nat} {x:α} (hi:xs[i]?=some x):∃ b o c cs,v=.slice (some ⟨b,o,none⟩) xs.length c/\cs.length=sz/\qw_ w b (o + i * sz) cs/\El cs x:=by
 rcases h with ⟨_,_,rfl⟩ | ⟨b,o,c,rfl,_,_,h3⟩
 ·simp at hi
 ·obtain ⟨cs,a1,a2,a3⟩:=h3 i x hi
  exact ⟨b,o,c,cs,rfl,a1,a2,a3⟩
end
end Go.Proofs.YtdplnemfjedocabDoor.Kx
