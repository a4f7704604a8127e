/-
  PLAIN LAWS AND CONTRACTS of messages, part 13 of 14: how readers and writers are printed, what they do, what the reference writes, and that what is written is read as the same. Nothing of a statement stands here.
-/
import Derived.Test.YtdplnemfjedocabDoorK1
import Derived.Test.YtdplnemfjedocabDoorK2
import Derived.Test.YtdplnemfjedocabDoorK8
import Derived.Test.YtdplnemfjedocabDoorK12

namespace Go.Proofs.YtdplnemfjedocabDoor.Kx
open Go
set_option maxRecDepth 4000
structure TgE where
 k:UInt32
 v:Value
 b:Bs
def OutAt (w:World) (L tG:Nat) (v:Value) (es:List TgE):Prop:=
 (v=nilS/\es=[]) \/
 ∃ (g c:Nat) (cur:Array Value),v=.slice (some ⟨g,0,none⟩) es.length c/\L<=g/\w.heap[g]?=some (.cells cur tG (0,0))/\es.length<=c/\c<=maxLen/\cur.size=c * 2/\∀ i e,es[i]?=some e->cur[i * 2]?=some (.int .u32 (e.k.toNat:Int))/\cur[i * 2 + 1]?=some e.v
theorem OutAt.own {w:World} {L tG:Nat} {v:Value} {es:List TgE} (h:OutAt w L tG v es) {k:Nat} (hk:v.ownBlock=some k):L<=k/\k < w.heap.size:=by
 rcases h with ⟨rfl,_⟩ | ⟨g,c,cur,rfl,hL,hg,_⟩
 ·cases hk
 ·obtain rfl:g=k:=Option.some.inj hk
  exact ⟨hL,(Array.getElem?_eq_some_iff.1 hg).1⟩
theorem OutAt.get {w:World} {L tG:Nat} {v:Value} {es:List TgE} (h:OutAt w L tG v es) {i:Nat} {e:TgE} (hi:es[i]?=some e):∃ g c,v=.slice (some ⟨g,0,none⟩) es.length c/\i < es.length/\qw_ w g (0 + i * 2) [.int .u32 (e.k.toNat:Int),e.v]:=by
 rcases h with ⟨_,rfl⟩ | ⟨g,c,cur,rfl,_,hg,_,_,_,hat⟩
 ·simp at hi
 ·obtain ⟨h1,h2⟩:=hat i e hi
  refine ⟨g,c,rfl,(List.getElem?_eq_some_iff.1 hi).1,fun j x hj=>?_⟩
  have hcell:∀ o,w.cell? ⟨g,o,none⟩=cur[o]?:=fun o=>by simp [World.cell?,hg]
  rw [hcell]
  match j,hj with
  | 0,hj=>simp only [List.getElem?_cons_zero,Option.some.injEq] at hj;subst hj;simpa using h1
  | 1,hj=>simp only [List.getElem?_cons_succ,List.getElem?_cons_zero,Option.some.injEq] at hj;subst hj;simpa using h2
  | j + 2,hj=>simp at hj
theorem OutAt.set {w:World} {L tG g c:Nat} {es:List TgE} {cur:Array Value} {len:Nat} (hlen:es.length=len) (hL:L<=g) (hg:w.heap[g]?=some (.cells cur tG (0,0))) (hc:len<=c) (hcm:c<=maxLen) (hcs:cur.size=c * 2) (hat:∀ i e,es[i]?=some e->cur[i * 2]?=some (.int .u32 (e.k.toNat:Int))/\cur[i * 2 + 1]?=some e.v) {i:Nat} (hi:i < len) (e:TgE) :
  OutAt (w.setRow g (qr_ cur (i * 2) [.int .u32 (e.k.toNat:Int),e.v])) L tG (.slice (some ⟨g,0,none⟩) len c) (es.set i e):=by
 have hfit:i * 2 + [Value.int .u32 (e.k.toNat:Int),e.v].length<=cur.size:=by simp only [List.length_cons,List.length_nil];omega
 refine .inr ⟨g,c,_,by rw [List.length_set,hlen],hL,setRow_heap _ _ _ _ _ _ hg,by rw [List.length_set,hlen];exact hc,hcm,by rw [splice_size hfit];exact hcs,fun j x hj=>?_⟩
 rw [List.getElem?_set] at hj
 split at hj
 ·rename_i hij
  subst hij
  split at hj
  ·obtain rfl:=Option.some.inj hj
   refine ⟨?_,?_⟩
   ·have:=jf_ hfit 0 (by simp)
    simpa using this
   ·have:=jf_ hfit 1 (by simp)
    simpa using this
  ·cases hj
 ·rename_i hij
  obtain ⟨h1,h2⟩:=hat j x hj
  refine ⟨?_,?_⟩
  ·rw [jr_ hfit _ (by simp only [List.length_cons,List.length_nil];omega)];exact h1
  ·rw [jr_ hfit _ (by simp only [List.length_cons,List.length_nil];omega)];exact h2
section
variable {P:Program} {ops:Array Oper} {C:World->Prop} {Q:Act->Prop} {r:List Oper} {n:Nat} {a:Act} {l:List (Nat × Value)}
variable {w:World}
end
end Go.Proofs.YtdplnemfjedocabDoor.Kx

namespace Go.Proofs.YtdplnemfjedocabDoor.Kx
open Go
set_option maxRecDepth 4000
def fVals:SFs->(Nat->Value)->Nat->List Value
 | .nil,_,_=>[]
 | .cons kind lo hi nul tag df of _ r,sv,i=>.agg (fCells kind lo hi nul tag df of (sv i)).toArray :: fVals r sv (i + 1)
def FieldsOk (w:World):SFs->(Nat->Value)->Nat->Prop
 | .nil,_,_=>True
 | .cons _ _ _ _ _ _ _ sub r,sv,i=>FsRp w sub (sv i)/\FieldsOk w r sv (i + 1)
theorem FsRp.kn {w w':World} (h:Keeps (fun _=>False) w w') {sf:SFs} {v:Value} (hs:FsRp w sf v):FsRp w' sf v:=hs.far (Fa0.of h)
theorem FieldsOk.kn {w w':World} (h:Keeps (fun _=>False) w w'):∀ (sf:SFs) (sv:Nat->Value) (i:Nat),FieldsOk w sf sv i->FieldsOk w' sf sv i
 | .nil,_,_,_=>trivial
 | .cons ..,sv,i,hh=>⟨hh.1.kn h,FieldsOk.kn h _ sv (i + 1) hh.2⟩
section
variable {P:Program} {S:SN}
end
end Go.Proofs.YtdplnemfjedocabDoor.Kx
