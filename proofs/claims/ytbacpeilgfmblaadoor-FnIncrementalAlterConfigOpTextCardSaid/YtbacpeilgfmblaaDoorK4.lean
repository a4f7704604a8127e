/-
  PLAIN LAWS AND CONTRACTS of messages, part 4 of 8: how readers and writers are printed, what they do, what the reference writes, and that what is written is read as the same. Nothing of a statement stands here.
-/
import Derived.Test.YtbacpeilgfmblaaDoorK1
import Derived.Test.YtbacpeilgfmblaaDoorK2
import Derived.Test.YtbacpeilgfmblaaDoorK3
import Derived.KernelRfl
import Derived.Laws.IdiomStrings
import Derived.MapFrom
import Derived.Deep.AppendSrc
import Derived.Laws.AppendOwn

namespace Go.Proofs.YtbacpeilgfmblaaDoor.Kx
open Go
section
variable {P:Program} {g:G} {K:Kn}
structure TI (g:G) (S R p2 p3 ntmps:Nat) (w0:World) (fin:List (Nat × Bs) × RS) (c:Nat) (a:Act) (w:World):Prop where
 g0:a.get 0=pt R 0
 g2:a.get 2=pt p2 0
 g3:a.get 3=pt p3 0
 g4:a.get 4=.int .u32 c
 size:a.tmps.size=ntmps
 defers:a.defers=[]
 keeps:Keeps (·=R) w0 w
 b2:w.heap[p2]?=some (.cells #[.map none] g.tTags (0,0))
 ex:∃ t r mm,rTags c t r=fin/\RdS w g.tR S R r/\w.heap[p3]?=some (.cells #[mm] g.tTags (0,0))/\(mm=.map none \/ ∃ q,mm=.map (some q)/\w0.heap.size + 2<=q)/\∀ X:Nat->Prop,(∀ k,X k->k < w0.heap.size + 2)->¬ X S->TgRp w X mm t
end
section
variable {P:Program} {g:G} {K:Kn}
theorem TI.put {S R p2 p3 ntmps c:Nat} {w0 w:World} {fin:List (Nat × Bs) × RS} {a:Act} (h:TI g S R p2 p3 ntmps w0 fin c a w) {d:Nat} {v:Value} (hd:5<=d):TI g S R p2 p3 ntmps w0 fin c (a.put (some d) v) w:=
 ⟨by rw [gpo (by omega)];exact h.g0,by rw [gpo (by omega)];exact h.g2,by rw [gpo (by omega)];exact h.g3,by rw [gpo (by omega)];exact h.g4,by rw [put_size];exact h.size,by rw [put_defers];exact h.defers,h.keeps,h.b2,h.ex⟩
end
def LIM:Nat:=70400000000000
def octv (b:UInt8):Value:=.int .u8 (b.toNat:Int)
def DstAt (w:World) (L te:Nat) (d:Value) (bs:Bs):Prop:=
 (d=.slice none 0 0/\bs=[]) \/
 ∃ (g c:Nat) (cur:Array Value),d=.slice (some ⟨g,0,none⟩) bs.length c/\L<=g/\w.heap[g]?=some (.cells cur te (0,0))/\bs.length<=c/\c<=maxLen/\cur.size=c/\∀ (i:Nat) (x:UInt8),bs[i]?=some x->cur[i]?=some (octv x)
structure Gr (L te:Nat) (d:Value) (w:World) (d':Value) (bs':Bs) (w':World):Prop where
 dst:DstAt w' L te d' bs'
 keeps:Keeps (fun k=>d.ownBlock=some k) w w'
 own:∀ k,d'.ownBlock=some k->d.ownBlock=some k \/ w.heap.size<=k
section
variable {L te:Nat} {d d1 d':Value} {w w1 w':World} {bs bs1 bs':Bs}
theorem DstAt.own (h:DstAt w L te d bs) {k:Nat} (hk:d.ownBlock=some k):L<=k/\k < w.heap.size:=by
 rcases h with ⟨rfl,_⟩ | ⟨g,c,cur,rfl,hL,hg,_⟩
 ·cases hk
 ·obtain rfl:g=k:=Option.some.inj hk
  exact ⟨hL,(Array.getElem?_eq_some_iff.1 hg).1⟩
theorem DstAt.keep {X:Nat->Prop} (h:DstAt w L te d bs) (hk:Keeps X w w') (hx:∀ k,d.ownBlock=some k->¬ X k):DstAt w' L te d bs:=by
 rcases h with h | ⟨g,c,cur,rfl,hL,hg,h⟩
 ·exact .inl h
 ·exact .inr ⟨g,c,cur,rfl,hL,by rw [hk.block g (Array.getElem?_eq_some_iff.1 hg).1 (hx g rfl)];exact hg,h⟩
theorem DstAt.nil (w:World) (L te:Nat):DstAt w L te (.slice none 0 0) []:=.inl ⟨rfl,rfl⟩
theorem Gr.refl (h:DstAt w L te d bs):Gr L te d w d bs w:=⟨h,Keeps.refl _ _,fun _ h=>.inl h⟩
theorem Gr.trans (h:Gr L te d w d1 bs1 w1) (k:Gr L te d1 w1 d' bs' w'):Gr L te d w d' bs' w':=
 ⟨k.dst,⟨k.keeps.os.trans h.keeps.os,k.keeps.tape.trans h.keeps.tape,k.keeps.output.trans h.keeps.output,Nat.le_trans h.keeps.size k.keeps.size,fun i hi hx=>by
   have hs:=h.keeps.size
   rw [k.keeps.block i (by omega) (fun hh=>by rcases h.own i hh with h1 | h1;exact hx h1;omega),h.keeps.block i hi hx]⟩,
  fun i hi=>by
   have hs:=h.keeps.size
   rcases k.own i hi with h1 | h1
   ·exact h.own i h1
   ·exact .inr (by omega)⟩
theorem Gr.post {X:Nat->Prop} (h:Gr L te d w d' bs' w1) (hk:Keeps X w1 w') (hx:∀ k,X k->w.heap.size<=k/\d'.ownBlock ≠ some k):Gr L te d w d' bs' w':=
 ⟨h.dst.keep hk (fun k hk hX=>(hx k hX).2 hk),⟨hk.os.trans h.keeps.os,hk.tape.trans h.keeps.tape,hk.output.trans h.keeps.output,Nat.le_trans h.keeps.size hk.size,fun i hi hi2=>by
   have hs:=h.keeps.size
   rw [hk.block i (by omega) (fun hX=>by have:=(hx i hX).1;omega),h.keeps.block i hi hi2]⟩,h.own⟩
end
structure OctT (P:Program) (tSl tU8:Nat):Prop where
 und:P.underlying tSl=some (.slice tU8)
 info:∃ i z,P.info? tU8=some i/\i.zero=some z/\i.size=1/\i.bytes=1/\z.cells.size=1
section
variable {P:Program} {tSl te:Nat}
theorem run_append_dst (ot:OctT P tSl te) {tx ty:TypeId} {L:Nat} {d x:Value} {w:World} {bs l:Bs} (hd:DstAt w L te d bs) (hs:Src P 1 tx x l.length (l.map octv) w) (hL:L<=w.heap.size) (hlim:bs.length + l.length<=LIM) :
  ∃ d' w',(Builtin.append_ #[tSl,tx] ty #[d,x]).run P w=.ok d' w'/\Gr L te d w d' (bs++l) w':=by
 obtain ⟨i,z,hi,hz,hsz,hby,hzs⟩:=ot.info
 have ht:=ot.und
 simp only [LIM] at hlim
 have hs':Src P i.size tx x l.length (l.map octv) w:=by rw [hsz];exact hs
 have grown:∀ (base:Option Addr) (old:Nat),old < bs.length + l.length->d.ownBlock=d.ownBlock->(Builtin.firstCells i.size bs.length (.slice base bs.length old)).run P w.drew=.ok (bs.map octv).toArray w.drew ->
   ∃ d' w',(Builtin.append_ #[tSl,tx] ty #[.slice base bs.length old,x]).run P w=.ok d' w'/\Gr L te d w d' (bs++l) w':=by
  intro base old ho _ hold
  have hr:=run_append_grow_src (P:=P) w tSl tx ty te i z ht hi hz base bs.length old (bs.map octv) hold x l.length (l.map octv) hs' ho (by omega) (growslice_fits ho (by rw [hby];omega))
  refine ⟨_,_,hr,?_⟩
  have hge:=grownCap_ge w (bs.length + l.length) old te
  have hcm:grownCap w (bs.length + l.length) old te<=maxLen:=grownCap_le_maxLen w _ old te (by simp only [maxLen];omega)
  refine ⟨.inr ⟨w.heap.size,_,_,by rw [List.length_append],hL,Go.heap_alloc_new w.drew _,by rw [List.length_append];exact hge,hcm,?_,?_⟩,⟨rfl,rfl,rfl,by simp,fun k hk _=>heap_alloc_old (w:=w.drew) hk⟩,fun k hk=>?_⟩
  ·simp only [Array.size_append,List.size_toArray,size_zeroCells,hzs,List.length_append,List.length_map]
   omega
  ·intro j u hj
   have hjl:j < (bs++l).length:=(List.getElem?_eq_some_iff.1 hj).1
   rw [Array.getElem?_append_left (by simp only [List.size_toArray,List.length_append,List.length_map];rw [List.length_append] at hjl;exact hjl)]
   rw [List.getElem?_toArray,<- List.map_append,List.getElem?_map,hj]
   rfl
  ·right
   simp only [Value.ownBlock,Option.some.injEq] at hk
   omega
 rcases hd with ⟨rfl,rfl⟩ | ⟨g,c,cur,rfl,hgL,hg,hnc,hcm,hcs,hat⟩
 ·by_cases h0:l.length=0
  ·have hl:l=[]:=List.eq_nil_of_length_eq_zero h0
   subst hl
   refine ⟨.slice none 0 0,w,?_,Gr.refl (DstAt.nil _ _ _)⟩
   have h1:=hs.len
   have h2:=hs.cells
   simp only [List.length_nil,List.map_nil] at h1 h2
   rcases hs.kind with ⟨e',hk⟩ | hk <;> simp [Builtin.append_,run_underlying ht,run_underlying hk,sizeOf,typeInfo,hi,hsz,h1,h2]
  ·refine grown none 0 (by simp only [List.length_nil];omega) rfl ?_
   simp [Builtin.firstCells]
 ·by_cases hroom:bs.length + l.length<=c
  ·have hst:=run_storeCells_at P g bs.length te (l.map octv) 0 cur w hg (by rw [List.length_map];omega) hs.one
   simp only [Nat.add_zero] at hst
   have hr:(Builtin.append_ #[tSl,tx] ty #[.slice (some ⟨g,0,none⟩) bs.length c,x]).run P w=.ok (.slice (some ⟨g,0,none⟩) (bs.length + l.length) c) (w.setRow g (splice cur bs.length (l.map octv))):=by
    rcases hs.kind with ⟨e',hk⟩ | hk <;> simp [Builtin.append_,run_underlying ht,run_underlying hk,sizeOf,typeInfo,hi,hsz,hs.len,hroom,hs.cells,Addr.add_lit,hst,splice]
   refine ⟨_,_,hr,.inr ⟨g,c,_,by rw [List.length_append],hgL,setRow_heap _ _ _ _ _ _ hg,by rw [List.length_append];exact hroom,hcm,?_,?_⟩,Keeps.setRow _ _ _ _ rfl,fun k hk=>.inl hk⟩
   ·rw [splice_size (by rw [List.length_map];omega)];exact hcs
   ·intro j u hj
    by_cases hjb:j < bs.length
    ·rw [splice_out (by rw [List.length_map];omega) j (.inl hjb)]
     rw [List.getElem?_append_left hjb] at hj
     exact hat j u hj
    ·rw [List.getElem?_append_right (by omega)] at hj
     have:=splice_in (cur:=cur) (o:=bs.length) (vs:=l.map octv) (by rw [List.length_map];omega) (j - bs.length) (by have:=(List.getElem?_eq_some_iff.1 hj).1;rw [List.length_map];exact this)
     rw [show bs.length + (j - bs.length)=j by omega] at this
     rw [this,List.getElem?_map,hj]
     rfl
  ·refine grown (some ⟨g,0,none⟩) c (by omega) rfl ?_
   have:=run_loadCells_list (P:=P) w.drew ⟨g,0,none⟩ (bs.map octv) (fun j u hj=>by
    rw [List.getElem?_map,Option.map_eq_some_iff] at hj
    obtain ⟨b,hb,rfl⟩:=hj
    rw [Addr.add_lit]
    have hg':w.drew.heap[g]?=some (.cells cur te (0,0)):=hg
    simp [World.cell?,hg',hat j b hb])
   simp only [List.length_map] at this
   simp [Builtin.firstCells,hsz,this]
theorem src_str {tStr:Nat} (hk:P.underlying tStr=some .string) (w:World) (l:Bs):Src P 1 tStr (.string ⟨l.toArray⟩) l.length (l.map octv) w:=by
 have:=Src.ofString (P:=P) w hk ⟨l.toArray⟩
 exact this
end
def nilS:Value:=.slice none 0 0
section
variable {P:Program} {g:G} {K:Kn}
section
variable {te L q f m:Nat} {d val:Value} {enc bs:Bs} {args:List Operand} {ops:Array Oper} {N E:Act->World->Prop} {a:Act} {w:World}
end
end
def strV (l:List UInt8):Value:=.string ⟨l.toArray⟩
structure Sm where
 fDef:Nat
 fSame:Nat
 F:Nat
 sz:Nat
 toff:Nat
 ds:List (Nat × Option Prim × Int)
structure GW where
 ap:PF->Nat
 alen:Nat
 calen:Nat
 nalen:Nat
 cnalen:Nat
 uv:Nat
 tlen:Nat
 teach:Nat
 tVer:Nat
 tInt:Nat
 tU32:Nat
 tSl:Nat
 tUuid:Nat
 sm:List Sm:=[]
end Go.Proofs.YtbacpeilgfmblaaDoor.Kx
