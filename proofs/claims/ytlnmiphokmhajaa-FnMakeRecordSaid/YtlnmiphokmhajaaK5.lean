/-
  PLAIN LAWS AND CONTRACTS of messages, part 5 of 12: how readers and writers are printed, what they do, what the reference writes, and that what is written is read as the same. Nothing of a statement stands here.
-/
import Derived.Test.YtlnmiphokmhajaaK1
import Derived.Test.YtlnmiphokmhajaaK2
import Derived.Test.YtlnmiphokmhajaaK3
import Derived.Test.YtlnmiphokmhajaaK4
import Derived.KernelRfl
import Derived.MapFrom
import Derived.Deep.AppendSrc
import Derived.Laws.AppendOwn

namespace Go.Proofs.Ytlnmiphokmhajaa.Kx
open Go
section
variable {P:Program} {g:G} {K:Kn}
theorem oct_one {l:List UInt8}:∀ u ∈ l.map (fun b=>Value.int .u8 (b.toNat:Int)),u.oneCell'=true:=by
 intro u hu
 obtain ⟨b,_,rfl⟩:=List.mem_map.1 hu
 rfl
end
def LIM:Nat:=70400000000000
def octv (b:UInt8):Value:=.int .u8 (b.toNat:Int)
def qu_ (w:World) (L te:Nat) (d:Value) (bs:Bs):Prop:=
 (d=.slice none 0 0/\bs=[]) \/
 ∃ (g c:Nat) (cur:Array Value),d=.slice (some ⟨g,0,none⟩) bs.length c/\L<=g/\w.heap[g]?=some (.cells cur te (0,0))/\bs.length<=c/\c<=maxLen/\cur.size=c/\∀ (i:Nat) (x:UInt8),bs[i]?=some x->cur[i]?=some (octv x)
structure Gr (L te:Nat) (d:Value) (w:World) (d':Value) (bs':Bs) (w':World):Prop where
 dst:qu_ w' L te d' bs'
 keeps:qd_ (fun k=>d.ownBlock=some k) w w'
 own:∀ k,d'.ownBlock=some k->d.ownBlock=some k \/ w.heap.size<=k
section
variable {L te:Nat} {d d1 d':Value} {w w1 w':World} {bs bs1 bs':Bs}
theorem qu_.own (h:qu_ w L te d bs) {k:Nat} (hk:d.ownBlock=some k):L<=k/\k < w.heap.size:=by
 rcases h with ⟨rfl,_⟩ | ⟨g,c,cur,rfl,hL,hg,_⟩
 ·cases hk
 ·obtain rfl:g=k:=Option.some.inj hk
  exact ⟨hL,(Array.getElem?_eq_some_iff.1 hg).1⟩
theorem qu_.keep {X:Nat->Prop} (h:qu_ w L te d bs) (hk:qd_ X w w') (hx:∀ k,d.ownBlock=some k->¬ X k):qu_ w' L te d bs:=by
 rcases h with h | ⟨g,c,cur,rfl,hL,hg,h⟩
 ·exact .inl h
 ·exact .inr ⟨g,c,cur,rfl,hL,by rw [hk.block g (Array.getElem?_eq_some_iff.1 hg).1 (hx g rfl)];exact hg,h⟩
theorem qu_.nil (w:World) (L te:Nat):qu_ w L te (.slice none 0 0) []:=.inl ⟨rfl,rfl⟩
theorem Gr.refl (h:qu_ w L te d bs):Gr L te d w d bs w:=⟨h,qd_.refl _ _,fun _ h=>.inl h⟩
theorem Gr.trans (h:Gr L te d w d1 bs1 w1) (k:Gr L te d1 w1 d' bs' w'):Gr L te d w d' bs' w':=
 ⟨k.dst,⟨k.keeps.os.trans h.keeps.os,k.keeps.tape.trans h.keeps.tape,k.keeps.output.trans h.keeps.output,Nat.le_trans h.keeps.size k.keeps.size,fun i hi hx=>by
   have hs:=h.keeps.size
   rw [k.keeps.block i (by omega) (fun hh=>by rcases h.own i hh with h1 | h1;exact hx h1;omega),h.keeps.block i hi hx]⟩,
  fun i hi=>by
   have hs:=h.keeps.size
   rcases k.own i hi with h1 | h1
   ·exact h.own i h1
   ·exact .inr (by omega)⟩
theorem Gr.far (hd:qu_ w L te d bs) (h:Gr L te d w d' bs' w'):qd_ (fun k=>L<=k) w w':=h.keeps.mono fun _ _ hk=>(hd.own hk).1
theorem Gr.pre {X:Nat->Prop} (hk:qd_ X w w1) (hx:∀ k,k < w.heap.size->¬ X k) (h:Gr L te d w1 d' bs' w'):Gr L te d w d' bs' w':=
 ⟨h.dst,⟨h.keeps.os.trans hk.os,h.keeps.tape.trans hk.tape,h.keeps.output.trans hk.output,Nat.le_trans hk.size h.keeps.size,fun i hi hi2=>by
   have hs:=hk.size
   rw [h.keeps.block i (by omega) hi2,hk.block i hi (hx i hi)]⟩,fun i hi=>by
  have hs:=hk.size
  rcases h.own i hi with h1 | h1
  ·exact .inl h1
  ·exact .inr (by omega)⟩
theorem Gr.post {X:Nat->Prop} (h:Gr L te d w d' bs' w1) (hk:qd_ X w1 w') (hx:∀ k,X k->w.heap.size<=k/\d'.ownBlock ≠ some k):Gr L te d w d' bs' w':=
 ⟨h.dst.keep hk (fun k hk hX=>(hx k hX).2 hk),⟨hk.os.trans h.keeps.os,hk.tape.trans h.keeps.tape,hk.output.trans h.keeps.output,Nat.le_trans h.keeps.size hk.size,fun i hi hi2=>by
   have hs:=h.keeps.size
   rw [hk.block i (by omega) (fun hX=>by have:=(hx i hX).1;omega),h.keeps.block i hi hi2]⟩,h.own⟩
theorem Gr.lower {L':Nat} (hL:L'<=L) (h:Gr L te d w d' bs' w'):Gr L' te d w d' bs' w':=
 ⟨by
  rcases h.dst with h | ⟨g,c,cur,h1,h2,h3⟩
  ·exact .inl h
  ·exact .inr ⟨g,c,cur,h1,by omega,h3⟩,h.keeps,h.own⟩
end
structure OctT (P:Program) (tSl tU8:Nat):Prop where
 und:P.underlying tSl=some (.slice tU8)
 info:∃ i z,P.info? tU8=some i/\i.zero=some z/\i.size=1/\i.bytes=1/\z.cells.size=1
section
variable {P:Program} {tSl te:Nat}
theorem q7_ (ot:OctT P tSl te) {tx ty:TypeId} {L:Nat} {d x:Value} {w:World} {bs l:Bs} (hd:qu_ w L te d bs) (hs:Src P 1 tx x l.length (l.map octv) w) (hL:L<=w.heap.size) (hlim:bs.length + l.length<=LIM) :
  ∃ d' w',(Builtin.append_ #[tSl,tx] ty #[d,x]).run P w=.ok d' w'/\Gr L te d w d' (bs++l) w':=by
 obtain ⟨i,z,hi,hz,hsz,hby,hzs⟩:=ot.info
 have ht:=ot.und
 simp only [LIM] at hlim
 have hs':Src P i.size tx x l.length (l.map octv) w:=by rw [hsz];exact hs
 have grown:∀ (base:Option Addr) (old:Nat),old < bs.length + l.length->d.ownBlock=d.ownBlock->(Builtin.firstCells i.size bs.length (.slice base bs.length old)).run P w.drew=.ok (bs.map octv).toArray w.drew ->
   ∃ d' w',(Builtin.append_ #[tSl,tx] ty #[.slice base bs.length old,x]).run P w=.ok d' w'/\Gr L te d w d' (bs++l) w':=by
  intro base old ho _ hold
  have hr:=run_append_grow_src (P:=P) w tSl tx ty te i z ht hi hz base bs.length old (bs.map octv) hold x l.length (l.map octv) hs' ho (by omega) (growslice_fits ho (by rw [hby];omega))
  refine ⟨_,_,hr,?_⟩
  have hge:=grownCap_ge w (bs.length + l.length) old te
  have hcm:grownCap w (bs.length + l.length) old te<=maxLen:=grownCap_le_maxLen w _ old te (by simp only [maxLen];omega)
  refine ⟨.inr ⟨w.heap.size,_,_,by rw [List.length_append],hL,Go.heap_alloc_new w.drew _,by rw [List.length_append];exact hge,hcm,?_,?_⟩,⟨rfl,rfl,rfl,by simp,fun k hk _=>heap_alloc_old (w:=w.drew) hk⟩,fun k hk=>?_⟩
  ·simp only [Array.size_append,List.size_toArray,size_zeroCells,hzs,List.length_append,List.length_map]
   omega
  ·intro j u hj
   have hjl:j < (bs++l).length:=(List.getElem?_eq_some_iff.1 hj).1
   rw [Array.getElem?_append_left (by simp only [List.size_toArray,List.length_append,List.length_map];rw [List.length_append] at hjl;exact hjl)]
   rw [List.getElem?_toArray,<- List.map_append,List.getElem?_map,hj]
   rfl
  ·right
   simp only [Value.ownBlock,Option.some.injEq] at hk
   omega
 rcases hd with ⟨rfl,rfl⟩ | ⟨g,c,cur,rfl,hgL,hg,hnc,hcm,hcs,hat⟩
 ·by_cases h0:l.length=0
  ·have hl:l=[]:=List.eq_nil_of_length_eq_zero h0
   subst hl
   refine ⟨.slice none 0 0,w,?_,Gr.refl (qu_.nil _ _ _)⟩
   have h1:=hs.len
   have h2:=hs.cells
   simp only [List.length_nil,List.map_nil] at h1 h2
   rcases hs.kind with ⟨e',hk⟩ | hk <;> simp [Builtin.append_,run_underlying ht,run_underlying hk,sizeOf,typeInfo,hi,hsz,h1,h2]
  ·refine grown none 0 (by simp only [List.length_nil];omega) rfl ?_
   simp [Builtin.firstCells]
 ·by_cases hroom:bs.length + l.length<=c
  ·have hst:=run_storeCells_at P g bs.length te (l.map octv) 0 cur w hg (by rw [List.length_map];omega) hs.one
   simp only [Nat.add_zero] at hst
   have hr:(Builtin.append_ #[tSl,tx] ty #[.slice (some ⟨g,0,none⟩) bs.length c,x]).run P w=.ok (.slice (some ⟨g,0,none⟩) (bs.length + l.length) c) (w.setRow g (q1_ cur bs.length (l.map octv))):=by
    rcases hs.kind with ⟨e',hk⟩ | hk <;> simp [Builtin.append_,run_underlying ht,run_underlying hk,sizeOf,typeInfo,hi,hsz,hs.len,hroom,hs.cells,Addr.add_lit,hst,q1_]
   refine ⟨_,_,hr,.inr ⟨g,c,_,by rw [List.length_append],hgL,setRow_heap _ _ _ _ _ _ hg,by rw [List.length_append];exact hroom,hcm,?_,?_⟩,qd_.setRow _ _ _ _ rfl,fun k hk=>.inl hk⟩
   ·rw [splice_size (by rw [List.length_map];omega)];exact hcs
   ·intro j u hj
    by_cases hjb:j < bs.length
    ·rw [q8_ (by rw [List.length_map];omega) j (.inl hjb)]
     rw [List.getElem?_append_left hjb] at hj
     exact hat j u hj
    ·rw [List.getElem?_append_right (by omega)] at hj
     have:=splice_in (cur:=cur) (o:=bs.length) (vs:=l.map octv) (by rw [List.length_map];omega) (j - bs.length) (by have:=(List.getElem?_eq_some_iff.1 hj).1;rw [List.length_map];exact this)
     rw [show bs.length + (j - bs.length)=j by omega] at this
     rw [this,List.getElem?_map,hj]
     rfl
  ·refine grown (some ⟨g,0,none⟩) c (by omega) rfl ?_
   have:=run_loadCells_list (P:=P) w.drew ⟨g,0,none⟩ (bs.map octv) (fun j u hj=>by
    rw [List.getElem?_map,Option.map_eq_some_iff] at hj
    obtain ⟨b,hb,rfl⟩:=hj
    rw [Addr.add_lit]
    have hg':w.drew.heap[g]?=some (.cells cur te (0,0)):=hg
    simp [World.cell?,hg',hat j b hb])
   simp only [List.length_map] at this
   simp [Builtin.firstCells,hsz,this]
theorem wl_appendDst (ot:OctT P tSl te) {tx ty:TypeId} {ops:Array Oper} {Q:Exit->Act->World->Prop} {r:List Oper} {a:Act} {dd:Option Nat} {p q:Operand} {L:Nat} {d x:Value} {w:World} {bs l:Bs} (hp:a.eval p=d) (hq:a.eval q=x)
  (hd:qu_ w L te d bs) (hs:Src P 1 tx x l.length (l.map octv) w) (hL:L<=w.heap.size) (hlim:bs.length + l.length<=LIM)
  (h:∀ d' w',Gr L te d w d' (bs++l) w'->wpList P ops Q r (a.put dd d') w'):wpList P ops Q (bi dd .append [p,q] [tSl,tx] ty :: r) a w:=by
 obtain ⟨d',w',hr,hg⟩:=q7_ (ty:=ty) ot hd hs hL hlim
 refine wpList_plain rfl fun _ hK=>?_
 unfold Oper.wp
 have:(execOp a.eval (bi dd .append [p,q] [tSl,tx] ty)).run P w=.ok (.value d') w':=by
  simp [execOp,bi,resolve,invoke,hp,hq,builtin,hr]
 rw [this]
 exact hK _ _ (h d' w' hg)
theorem src_oct (ot:OctT P tSl te) {w:World} {g o c:Nat} {l:Bs} (h:OctAt w g o l):Src P 1 tSl (.slice (some ⟨g,o,none⟩) l.length c) l.length (l.map octv) w:=
 Src.ofSlice w ot.und ⟨g,o,none⟩ l.length c _ (by simp) (fun j u hj=>by
  rw [List.getElem?_map,Option.map_eq_some_iff] at hj
  obtain ⟨b,hb,rfl⟩:=hj
  rw [Addr.add_lit]
  exact h j b hb) oct_one
theorem src_str {tStr:Nat} (hk:P.underlying tStr=some .string) (w:World) (l:Bs):Src P 1 tStr (.string ⟨l.toArray⟩) l.length (l.map octv) w:=by
 have:=Src.ofString (P:=P) w hk ⟨l.toArray⟩
 exact this
end
abbrev OE:=Option Nat × Bool
def oeLen (e:OE):Nat:=2 + (if e.1.isSome then 1 else 0) + (if e.2 then 2 else 0)
def oeOps (K:Kn) (tX:Nat) (k:IntKind) (e:OE) (n:Nat):List Oper:=
 mk (some n) (.move (tm 1)) ::
 ((match e.1 with | some s=>[mk (some (n + 1)) (.binOp .shr tX (tm n) (ki .u64 s) 0)] | none=>[]) ++
 let q:=n + (if e.1.isSome then 1 else 0)
 (if e.2 then [mk (some (q + 1)) (.binOp .and tX (tm q) (ki k 127) 0),mk (some (q + 2)) (.binOp .or tX (tm (q + 1)) (ki k 128) 0),mk (some (q + 3)) (.convert tX K.tU8 (tm (q + 2)))]
  else [mk (some (q + 1)) (.convert tX K.tU8 (tm q))]))
def oesOps (K:Kn) (tX:Nat) (k:IntKind):List OE->Nat->List Oper
 | [],_=>[]
 | e :: r,n=>oeOps K tX k e n++oesOps K tX k r (n + oeLen e)
def oesLen:List OE->Nat
 | []=>0
 | e :: r=>oeLen e + oesLen r
def oesSlots:List OE->Nat->List Nat
 | [],_=>[]
 | e :: r,n=>(n + oeLen e - 1) :: oesSlots r (n + oeLen e)
def oeVal (e:OE) (x:Int):UInt8:=UInt8.ofNat (if e.2 then (x / 2 ^ (e.1.getD 0) % 128 + 128).toNat else (x / 2 ^ (e.1.getD 0) % 256).toNat)
def oesVal (es:List OE) (x:Int):Bs:=es.map fun e=>oeVal e x
def ixs:Nat->List Nat->List (Nat × Operand)
 | _,[]=>[]
 | i,s :: r=>(i,tm s) :: ixs (i + 1) r
def gAppO (K:Kn) (tX:Nat) (k:IntKind) (es:List OE):GC:=gS [gOps (3 + oesLen es) fun n=>mk (some n) (.move (tm 0)) :: (oesOps K tX k es (n + 1) ++
  [mk (some (n + 1 + oesLen es)) (.buildSlice K.tSl es.length (ixs 0 (oesSlots es (n + 1))).toArray),bi (some (n + 2 + oesLen es)) .append [tm n,tm (n + 1 + oesLen es)] [K.tSl,K.tSl] K.tSl,mk (some 4) (.assign (tm (n + 2 + oesLen es)))]),gCode .ret]
section
variable {P:Program} {g:G} {K:Kn}
theorem run_shr {k:IntKind} {A:Nat} {x:Int} {s:Nat} (hs:s<=k.bits) (w:World):(binOp .shr A (.int k x) (.int .u64 (s:Int))).run P w=.ok (.int k (x / 2 ^ s)) w:=by
 have h1:¬ ((s:Int) < 0):=by omega
 have h2:min s k.bits=s:=by omega
 have h3:(0:Int)<=2 ^ s:=by
  have:=Int.pow_pos (n:=2) (m:=s) (by omega)
  omega
 simp only [binOp,Op.shift,h1,if_false,Int.toNat_natCast,h2,Sem.run_pure,Int.fdiv_eq_ediv_of_nonneg _ h3]
theorem run_and127 {k:IntKind} (hk:uk k) {A m:Nat} (hm:m < 2 ^ k.bits) (w:World):(binOp .and A (.int k (m:Int)) (.int k 127)).run P w=.ok (.int k ((m % 128:Nat):Int)) w:=by
 have e1:BitVec.ofInt k.bits (m:Int)=BitVec.ofNat k.bits m:=by simp
 have e2:BitVec.ofInt k.bits 127=BitVec.ofNat k.bits 127:=BitVec.ofInt_natCast (n:=127) ..
 have h127:127 < 2 ^ k.bits:=by rcases hk with rfl | rfl | rfl <;> decide
 have e4:(BitVec.ofNat k.bits m &&& BitVec.ofNat k.bits 127).toNat=m % 128:=by
  rw [BitVec.toNat_and,BitVec.toNat_ofNat,BitVec.toNat_ofNat,Nat.mod_eq_of_lt hm,Nat.mod_eq_of_lt h127]
  exact Nat.and_two_pow_sub_one_eq_mod m 7
 have hkk:(k ≠ k)=False:=by simp
 have h3:m % 128 < 2 ^ k.bits:=by omega
 simp only [binOp,hkk,if_false,Op.intBits,e1,e2,e4,uk_wrap hk h3,Sem.run_pure]
theorem run_or128 {k:IntKind} (hk:uk k) {A m:Nat} (hm:m < 128) (w:World):(binOp .or A (.int k (m:Int)) (.int k 128)).run P w=.ok (.int k ((m + 128:Nat):Int)) w:=by
 have e1:BitVec.ofInt k.bits (m:Int)=BitVec.ofNat k.bits m:=by simp
 have e2:BitVec.ofInt k.bits 128=BitVec.ofNat k.bits 128:=BitVec.ofInt_natCast (n:=128) ..
 have h256:256<=2 ^ k.bits:=by rcases hk with rfl | rfl | rfl <;> decide
 have e3:m ||| 128=m + 128:=by
  have:=Nat.two_pow_add_eq_or_of_lt (i:=7) (b:=m) (by omega) 1
  rw [Nat.or_comm]
  simp at this
  omega
 have e4:(BitVec.ofNat k.bits m ||| BitVec.ofNat k.bits 128).toNat=m + 128:=by
  rw [BitVec.toNat_or,BitVec.toNat_ofNat,BitVec.toNat_ofNat,Nat.mod_eq_of_lt (by omega),Nat.mod_eq_of_lt (by omega),e3]
 have hkk:(k ≠ k)=False:=by simp
 simp only [binOp,hkk,if_false,Op.intBits,e1,e2,e4,uk_wrap hk (show m + 128 < 2 ^ k.bits by omega),Sem.run_pure]
theorem wrap8 (y:Int):IntKind.u8.wrap y=((UInt8.ofNat (y % 256).toNat).toNat:Int):=by
 simp [IntKind.wrap,IntKind.bits,IntKind.signed]
 omega
theorem wl_oe2 {tX:Nat} {k:IntKind} (hX:P.underlying tX=some (.int k)) (h8:P.underlying K.tU8=some (.int .u8)) {ops:Array Oper} {Q:Exit->Act->World->Prop} {r:List Oper} {a:Act} {w:World} {y:Int} {m:Bool} {q:Nat}
  (hq:a.get q=.int k y) (hm:m=true->uk k/\0<=y/\y < 2 ^ k.bits) (hs:q + (if m then 3 else 1) < a.tmps.size)
  (h:∀ a',Pv (q + 1) 0 0 (q + 1) a a'->a'.get (q + (if m then 3 else 1))=octv (UInt8.ofNat (if m then (y % 128 + 128).toNat else (y % 256).toNat))->wpList P ops Q r a' w) :
  wpList P ops Q ((if m then [mk (some (q + 1)) (.binOp .and tX (tm q) (ki k 127) 0),mk (some (q + 2)) (.binOp .or tX (tm (q + 1)) (ki k 128) 0),mk (some (q + 3)) (.convert tX K.tU8 (tm (q + 2)))] else [mk (some (q + 1)) (.convert tX K.tU8 (tm q))])++r) a w:=by
 cases m with
 | false=>
  simp only [Bool.false_eq_true,if_false] at hs h ⊢
  refine wl_convInt (k:=k) (k':=.u8) (m:=y) hq hX h8 (h _ ((Pv.refl _ _ _ _ _).put _ (.inl rfl)) ?_)
  rw [get_put _ _ _ hs,wrap8]
  rfl
 | true=>
  simp only [if_true] at hs h ⊢
  obtain ⟨hk,h0,hb⟩:=hm rfl
  obtain ⟨y',rfl⟩:=Int.eq_ofNat_of_zero_le h0
  have hb':y' < 2 ^ k.bits:=by exact_mod_cast hb
  refine wl_bin (k:=k) (m:=y') (n:=127) hq rfl (by simp) (run_and127 hk hb' w) ?_
  refine wl_bin (k:=k) (m:=((y' % 128:Nat):Int)) (n:=128) (by rw [qe_,gpe (by omega)]) rfl (by simp) (run_or128 hk (by omega) w) ?_
  refine wl_convInt (k:=k) (k':=.u8) (m:=((y' % 128 + 128:Nat):Int)) (by rw [qe_,gpe (by simp only [qb_];omega)]) hX h8 (h _ ((((Pv.refl _ _ _ _ _).put _ (.inl rfl)).put _ (.inr (by omega))).put _ (.inr (by omega))) ?_)
  rw [gpe (by simp only [qb_];omega),wrap8]
  have e1:(((y' % 128 + 128:Nat):Int) % 256).toNat=y' % 128 + 128:=by omega
  have e2:((y':Int) % 128 + 128).toNat=y' % 128 + 128:=by omega
  rw [e1,e2]
  rfl
theorem wl_oe {tX:Nat} {k:IntKind} (hX:P.underlying tX=some (.int k)) (h8:P.underlying K.tU8=some (.int .u8)) {ops:Array Oper} {Q:Exit->Act->World->Prop} {r:List Oper} {a:Act} {w:World} {x:Int} {e:OE} {n:Nat} (h1n:1 < n)
  (h1:a.get 1=.int k x) (hok:e=(none,false) \/ (uk k/\0<=x/\x < 2 ^ k.bits/\∀ s,e.1=some s->s<=k.bits)) (hs:n + oeLen e<=a.tmps.size)
  (h:∀ a',Pv n 0 0 n a a'->a'.get (n + oeLen e - 1)=octv (oeVal e x)->wpList P ops Q r a' w):wpList P ops Q (oeOps K tX k e n++r) a w:=by
 obtain ⟨s,m⟩:=e
 have hP1:Pv n 0 0 n a (a.put (some n) (.int k x)):=(Pv.refl _ _ _ _ _).put _ (.inl rfl)
 refine qy_ ?_
 rw [qe_,h1]
 cases s with
 | none=>
  show wpList P ops Q ((if m then _ else _)++r) _ w
  refine wl_oe2 (q:=n) (y:=x) hX h8 (gpe (by simp only [oeLen] at hs;omega)) (fun hm=>?_) (by simp only [qb_];simp only [oeLen] at hs;cases m <;> simp at hs ⊢ <;> omega) fun a' hp hg=>h a' (hP1.trans ⟨hp.size,hp.defers,fun s hs1 hs2=>hp.get s (by omega) (by omega)⟩) ?_
  ·subst hm
   rcases hok with hok | ⟨h2,h3,h4,_⟩
   ·cases hok
   ·exact ⟨h2,h3,h4⟩
  ·rw [show n + oeLen (none,m) - 1=n + (if m then 3 else 1) by cases m <;> simp [oeLen]]
   rw [hg]
   simp [oeVal]
 | some s=>
  rcases hok with hok | ⟨h2,h3,h4,h5⟩
  ·cases hok
  have hsb:=h5 s rfl
  show wpList P ops Q (mk (some (n + 1)) (.binOp .shr tX (tm n) (ki .u64 s) 0) :: ((if m then _ else _)++r)) _ w
  have hsz:n + 1 < a.tmps.size:=by simp only [oeLen] at hs;cases m <;> simp at hs <;> omega
  have hrun:=run_shr (P:=P) (k:=k) (A:=tX) (x:=x) hsb w
  refine ql_ (v:=.int k (x / 2 ^ s)) (w':=w) ?_ ?_
  ·have e1:(a.put (some n) (.int k x)).eval (tm n)=.int k x:=by rw [qe_,gpe (by omega)]
   have e2:(a.put (some n) (.int k x)).eval (ki .u64 s)=.int .u64 s:=rfl
   simp [execOp,mk,e1,e2,eqGuard,hrun]
  ·have hpos:(0:Int) < 2 ^ s:=Int.pow_pos (by omega)
   have hy0:0<=x / 2 ^ s:=Int.ediv_nonneg h3 (by omega)
   have hyb:x / 2 ^ s < 2 ^ k.bits:=Int.lt_of_le_of_lt (Int.ediv_le_self _ h3) h4
   refine wl_oe2 (q:=n + 1) (y:=x / 2 ^ s) hX h8 (gpe (by simp only [qb_];omega)) (fun hm=>⟨h2,hy0,hyb⟩) (by simp only [qb_];simp only [oeLen] at hs;cases m <;> simp at hs ⊢ <;> omega) fun a' hp hg=>
    h a' ((hP1.put _ (.inr (by omega))).trans ⟨hp.size,hp.defers,fun s hs1 hs2=>hp.get s (by omega) (by omega)⟩) ?_
   rw [show n + oeLen (some s,m) - 1=n + 1 + (if m then 3 else 1) by cases m <;> simp [oeLen]]
   rw [hg]
   simp [oeVal]
theorem oeLen_pos (e:OE):2<=oeLen e:=by simp only [oeLen];omega
theorem wl_oes {tX:Nat} {k:IntKind} (hX:P.underlying tX=some (.int k)) (h8:P.underlying K.tU8=some (.int .u8)) {ops:Array Oper} {Q:Exit->Act->World->Prop} {r:List Oper} {w:World} {x:Int} :
  ∀ (es:List OE) (n:Nat) (a:Act),1 < n->a.get 1=.int k x->(∀ e ∈ es,e=(none,false) \/ (uk k/\0<=x/\x < 2 ^ k.bits/\∀ s,e.1=some s->s<=k.bits))->n + oesLen es<=a.tmps.size ->
  (∀ a',Pv n 0 0 n a a'->(oesSlots es n).map a'.get=(oesVal es x).map octv->(∀ s ∈ oesSlots es n,n<=s)->wpList P ops Q r a' w)->wpList P ops Q (oesOps K tX k es n++r) a w
 | [],n,a,_,_,_,_,h=>h a (Pv.refl _ _ _ _ _) rfl (by simp [oesSlots])
 | e :: es,n,a,h1n,h1,hok,hs,h=>by
  have hl:=oeLen_pos e
  simp only [oesLen] at hs
  show wpList P ops Q ((oeOps K tX k e n++oesOps K tX k es (n + oeLen e))++r) a w
  rw [List.append_assoc]
  refine wl_oe hX h8 h1n h1 (hok e (List.mem_cons_self ..)) (by omega) fun a1 hp1 hg1=>?_
  have hsz1:=hp1.size
  refine wl_oes hX h8 es (n + oeLen e) a1 (by omega) (by rw [hp1.get 1 (by omega) (by omega)];exact h1) (fun e' he=>hok e' (List.mem_cons_of_mem _ he)) (by omega) fun a2 hp2 hg2 hge=>?_
  refine h a2 (hp1.trans ⟨hp2.size,hp2.defers,fun s hs1 hs2=>hp2.get s (by omega) (by omega)⟩) ?_ ?_
  ·simp only [oesSlots,oesVal,List.map_cons]
   rw [hp2.get (n + oeLen e - 1) (by omega) (by omega),hg1,hg2]
   rfl
  ·intro s hs
   simp only [oesSlots,List.mem_cons] at hs
   rcases hs with rfl | hs
   ·omega
   ·have:=hge s hs;omega
def prs:Nat->List Value->List (Nat × Value)
 | _,[]=>[]
 | i,v :: r=>(i,v) :: prs (i + 1) r
theorem fill_one:∀ (vs:List Value) (i:Nat) (cur:Array Value),(∀ v ∈ vs,v.cells=#[v])->i + vs.length<=cur.size->Instr.fill (fun i=>some (i,1)) cur (prs i vs)=some (q1_ cur i vs)
 | [],i,cur,_,h=>by simp [prs,Instr.fill,q1_]
 | v :: vs,i,cur,h1,h=>by
  have hv:=h1 v (List.mem_cons_self ..)
  simp only [List.length_cons] at h
  have ih:=fill_one vs (i + 1) (cur.setIfInBounds i v) (fun u hu=>h1 u (List.mem_cons_of_mem _ hu)) (by simp;omega)
  have hc:¬ (i + 1 > cur.size):=by omega
  simp only [prs,Instr.fill,hv]
  simp [hc]
  rw [ih]
  congr 1
  apply Array.ext'
  apply List.ext_getElem?
  intro j
  have e1:=@splice_size (cur.setIfInBounds i v) (i + 1) vs (by simp;omega)
  have e2:=@splice_size cur i (v :: vs) (by simp only [List.length_cons];omega)
  simp only [Array.getElem?_toList]
  by_cases hj:j < i
  ·rw [q8_ (by simp;omega) j (.inl (by omega)),q8_ (by simp only [List.length_cons];omega) j (.inl hj),Array.getElem?_setIfInBounds,if_neg (by omega)]
  ·by_cases hji:j=i
   ·subst hji
    have:=splice_in (cur:=cur) (o:=j) (vs:=v :: vs) (by simp only [List.length_cons];omega) 0 (by simp)
    rw [Nat.add_zero] at this
    rw [this,q8_ (by simp;omega) j (.inl (by omega)),Array.getElem?_setIfInBounds,if_pos rfl,if_pos (by omega)]
    rfl
   ·by_cases hjl:j < i + 1 + vs.length
    ·have h3:=splice_in (cur:=cur.setIfInBounds i v) (o:=i + 1) (vs:=vs) (by simp;omega) (j - (i + 1)) (by omega)
     have h4:=splice_in (cur:=cur) (o:=i) (vs:=v :: vs) (by simp only [List.length_cons];omega) (j - i) (by simp only [List.length_cons];omega)
     rw [show i + 1 + (j - (i + 1))=j by omega] at h3
     rw [show i + (j - i)=j by omega] at h4
     rw [h3,h4,show j - i=(j - (i + 1)) + 1 by omega]
     rfl
    ·rw [q8_ (by simp;omega) j (.inr (by omega)),q8_ (by simp only [List.length_cons];omega) j (.inr (by simp only [List.length_cons];omega)),Array.getElem?_setIfInBounds,if_neg (by omega)]
theorem ixs_eval (a:Act):∀ (ss:List Nat) (i:Nat),(ixs i ss).map (fun p=>(p.1,a.eval p.2))=prs i (ss.map a.get)
 | [],_=>rfl
 | s :: r,i=>by
  simp only [ixs,List.map_cons,prs,ixs_eval a r (i + 1)]
  rfl
theorem wl_buildSlice {tSl te:Nat} (ot:OctT P tSl te) {ops:Array Oper} {Q:Exit->Act->World->Prop} {r:List Oper} {a:Act} {w:World} {d:Nat} {ps:List (Nat × Operand)} {l:Bs} (hp:ps.map (fun p=>(p.1,a.eval p.2))=prs 0 (l.map octv)) (h0:l ≠ []) (hb:l.length<=16777216)
  (h:wpList P ops Q r (a.put (some d) (.slice (some ⟨w.heap.size,0,none⟩) l.length l.length)) (w.alloc (.cells (l.map octv).toArray te (0,0)))) :
  wpList P ops Q (mk (some d) (.buildSlice tSl l.length ps.toArray) :: r) a w:=by
 obtain ⟨i,z,hi,hz,hsz,hby,hzs⟩:=ot.info
 refine ql_ (w':=w.alloc (.cells (l.map octv).toArray te (0,0))) ?_ h
 have hl:l.length ≠ 0:=fun h=>h0 (List.eq_nil_of_length_eq_zero h)
 have hfill:=fill_one (l.map octv) 0 ((Array.range l.length).map fun k=>z.cells[k % z.cells.size]!) (fun v hv=>by
  obtain ⟨b,_,rfl⟩:=List.mem_map.1 hv
  rfl) (by simp)
 rw [splice_whole (by simp)] at hfill
 have hm:(ps.toArray.map fun (p:Nat × Operand)=>(p.1,a.eval p.2)).toList=prs 0 (l.map octv):=by simpa using hp
 have hnb:¬ (l.length > 16777216):=by omega
 simp [execOp,mk,Instr.buildSlice,run_underlying ot.und,sizeOf,typeInfo,zeroValue,hi,hz,hsz,hnb,hl,hp,hfill,newRow,newObj,Sem.run]
theorem s_appO {tX:Nat} {k:IntKind} (ot:OctT P K.tSl K.tU8) (hX:P.underlying tX=some (.int k)) (h8:P.underlying K.tU8=some (.int .u8)) {es:List OE} {E N:Act->World->Prop} {a:Act} {w:World} {x:Int} {n L:Nat} {d:Value} {bs:Bs} (h1n:4 < n)
  (h0:a.get 0=d) (h1:a.get 1=.int k x) (hok:∀ e ∈ es,e=(none,false) \/ (uk k/\0<=x/\x < 2 ^ k.bits/\∀ s,e.1=some s->s<=k.bits)) (hes:es ≠ []) (hes2:es.length<=10) (hs:n + 3 + oesLen es<=a.tmps.size)
  (hd:qu_ w L K.tU8 d bs) (hL:L<=w.heap.size) (hlim:bs.length + es.length<=LIM)
  (h:∀ a' w' d',a'.defers=a.defers->a'.get 4=d'->Gr L K.tU8 d w d' (bs++oesVal es x) w'->E a' w'):NWP P (gAppO K tX k es n).1 (Rt N E) a w:=by
 refine nwp_gS (qx_ (nwp_rg (qy_ ?_)))
 rw [qe_,h0]
 refine wl_oes hX h8 es (n + 1) _ (by omega) (by rw [gpo (by omega)];exact h1) hok (by simp only [qb_];omega) fun a1 hp1 hg1 hge=>?_
 have hs1:=hp1.size
 simp only [qb_] at hs1
 have hlen:(oesVal es x).length=es.length:=by simp [oesVal]
 rw [<- hlen]
 refine wl_buildSlice ot (by rw [ixs_eval,hg1]) (fun hh=>hes (by rw [hh] at hlen;exact List.eq_nil_of_length_eq_zero hlen.symm)) (by omega) ?_
 rw [hlen]
 have hk:qd_ (fun _=>False) w (w.alloc (.cells ((oesVal es x).map octv).toArray K.tU8 (0,0))):=qd_.alloc _ _ _
 have hoct:OctAt (w.alloc (.cells ((oesVal es x).map octv).toArray K.tU8 (0,0))) w.heap.size 0 (oesVal es x):=by
  intro j b hj
  have:=qo_ w (.cells ((oesVal es x).map octv).toArray K.tU8 (0,0))
  simp only [World.cell?,this,Nat.zero_add,List.getElem?_toArray,List.getElem?_map,hj]
  rfl
 refine wl_appendDst ot (d:=d) (L:=L) (bs:=bs) (l:=oesVal es x) ?_ (x:=.slice (some ⟨w.heap.size,0,none⟩) (oesVal es x).length es.length) ?_ (hd.keep hk fun _ _ h=>h) (src_oct ot hoct) (by have:=hk.size;omega) (by rw [hlen];exact hlim) fun d' w' hg=>?_
 ·rw [qe_,gpo (by omega),hp1.get n (by omega) (by omega),gpe (by omega)]
 ·rw [qe_,gpe (by omega),hlen]
 refine qn_ (wpList_nil ?_)
 show LW P [gCode .ret] _ _ _ _
 rw [qe_,gpe (by simp only [qb_];omega)]
 refine qx_ (.ret ?_)
 exact h _ w' d' (by simp only [qg_];rw [hp1.defers,qg_]) (gpe (by simp only [qb_];omega)) (Gr.pre hk (fun _ _ h=>h) hg)
end
def ApL (P:Program) (te f:Nat) (val:Value) (enc:Bs) (w:World) (L:Nat):Prop:=
 ∀ (d:Value) (bs:Bs),qu_ w L te d bs->L<=w.heap.size->bs.length + enc.length<=LIM->Calls P f #[d,val] w fun e w'=>∃ d',e=.returned d'/\Gr L te d w d' (bs++enc) w'
def ApC (P:Program) (te f:Nat) (val:Value) (enc:Bs) (w:World):Prop:=∀ L:Nat,ApL P te f val enc w L
def nilS:Value:=.slice none 0 0
def rd4 (n0:Nat) (l:List GC):Code:=(gS (gSet 4 nilS :: l) n0).1
section
variable {P:Program} {g:G} {K:Kn}
theorem calls2 (hm:P.follows .mixedOrders=true) {f ntmps n0:Nat} {l:List GC} {y z:Value} {w:World} {RR:Ending->World->Prop} (hfn:FnIs P f ntmps [4] (gS l n0).1) (hnt:2<=ntmps)
  (h:∀ a,a.get 0=y->a.get 1=z->a.tmps.size=ntmps->a.defers=[]->LW P l n0 (Rt (fun _ _=>False) (fun a' w'=>a'.defers=[]/\RR (.returned (a'.get 4)) w')) a w):Calls P f #[y,z] w RR:=by
 refine hfn.calls hm (by simp) ?_
 have:=h { tmps:=#[y,z]++Array.replicate (ntmps - (#[y,z]:Array Value).size) undef,defers:=[] } (by rw [get_args _ _ _ (by simp)];rfl) (by rw [get_args _ _ _ (by simp)];rfl) (size_args #[y,z] ntmps hnt) rfl
 exact rt_mono (nwp_gS this) (fun _ _ h=>h.elim) (fun a w h=>⟨h.1,h.2⟩)
theorem calls2s (hm:P.follows .mixedOrders=true) {f ntmps n0:Nat} {l:List GC} {y z:Value} {w:World} {RR:Ending->World->Prop} (hfn:FnIs P f ntmps [4] (rd4 n0 l)) (hnt:5<=ntmps)
  (h:∀ a,a.get 0=y->a.get 1=z->a.tmps.size=ntmps->a.defers=[]->LW P l n0 (Rt (fun _ _=>False) (fun a' w'=>a'.defers=[]/\RR (.returned (a'.get 4)) w')) a w):Calls P f #[y,z] w RR:=by
 refine calls2 hm hfn (by omega) fun a h0 h1 hs hd=>?_
 refine qx_ (nwp_rg (qn_ (wpList_nil ?_)))
 exact h _ (by rw [gpo (by omega)];exact h0) (by rw [gpo (by omega)];exact h1) (by rw [qb_];exact hs) (by rw [qg_];exact hd)
section
variable {te L q f m:Nat} {d val:Value} {enc bs:Bs} {args:List Operand} {ops:Array Oper} {N E:Act->World->Prop} {a:Act} {w:World}
end
end
def blen:Nat->Nat->Nat
 | 0,_=>0
 | f + 1,x=>if x=0 then 0 else blen f (x / 2) + 1
def len8:List UInt8:=(List.range 256).map fun i=>UInt8.ofNat (blen 9 i)
def uvT (n:Nat):UInt8:=UInt8.ofNat (if n=0 then 1 else if n<=64 then (n + 6) / 7 else 0)
def uvTab:List UInt8:=(List.range 256).map uvT
def strV (l:List UInt8):Value:=.string ⟨l.toArray⟩
def cLen32 (K:Kn) (tU:Nat):Code:=(gS [gSet 2 (.int .i64 0),
 gIf 1 2 (fun n=>[mk (some n) (.move (tm 0)),mk (some (n + 1)) (.binOp .geq tU (tm n) (ki .u32 65536) 0)])
  (gS [gOps 2 fun n=>[mk (some n) (.move (tm 0)),mk (some (n + 1)) (.binOp .shr tU (tm n) (ki .u64 16) 0),mk (some 0) (.assign (tm (n + 1)))],gSet 2 (.int .i64 16)]) gSkip,
 gIf 1 2 (fun n=>[mk (some n) (.move (tm 0)),mk (some (n + 1)) (.binOp .geq tU (tm n) (ki .u32 256) 0)])
  (gS [gOps 2 fun n=>[mk (some n) (.move (tm 0)),mk (some (n + 1)) (.binOp .shr tU (tm n) (ki .u64 8) 0),mk (some 0) (.assign (tm (n + 1)))],
   gOps 2 fun n=>[mk (some n) (.move (tm 2)),mk (some (n + 1)) (.binOp .add K.tInt (tm n) (ki .i64 8) 0),mk (some 2) (.assign (tm (n + 1)))]]) gSkip,
 gOps 6 fun n=>[mk (some n) (.move (tm 2)),mk (some (n + 1)) (.move (tm 0)),mk (some (n + 2)) (.convert tU K.tU8 (tm (n + 1))),mk (some (n + 3)) (.index K.tStr (.const (strV len8)) (tm (n + 2))),mk (some (n + 4)) (.convert K.tU8 K.tInt (tm (n + 3))),
  mk (some (n + 5)) (.binOp .add K.tInt (tm n) (tm (n + 4)) 0),mk (some 2) (.assign (tm (n + 5)))],gCode .ret] 3).1
def cUvLen (K:Kn) (f:Nat):Code:=(gS [gSet 2 (.int .i64 0),gOps 5 fun n=>[mk (some n) (.move (tm 0)),cl (some (n + 1)) f [tm n],mk (some (n + 2)) (.convert K.tInt K.tU8 (tm (n + 1))),mk (some (n + 3)) (.index K.tStr (.const (strV uvTab)) (tm (n + 2))),
 mk (some (n + 4)) (.convert K.tU8 K.tInt (tm (n + 3))),mk (some 2) (.assign (tm (n + 4)))],gCode .ret] 3).1
def uvEs:List (Nat × List OE):=[(5,[(none,true),(some 7,true),(some 14,true),(some 21,true),(some 28,false)]),(4,[(none,true),(some 7,true),(some 14,true),(some 21,false)]),(3,[(none,true),(some 7,true),(some 14,false)]),(2,[(none,true),(some 7,false)]),(1,[(none,false)])]
def uvCases (K:Kn):List (Nat × List OE)->Nat->Code × Nat
 | [],n=>(.skip,n)
 | (j,es) :: r,n=>(.seq (rg [mk (some (n + 1)) (.binOp .eql K.tInt (tm 6) (ki .i64 j) 0),mk (some n) (.assign (tm (n + 1)))]) (.cond (tm n) (gAppO K K.tU32 .u32 es (n + 2)).1 (uvCases K r (gAppO K K.tU32 .u32 es (n + 2)).2).1),(uvCases K r (gAppO K K.tU32 .u32 es (n + 2)).2).2)
def cAUv (K:Kn) (f:Nat):Code:=rd4 5 [gS [gOps 2 fun n=>[mk (some n) (.move (tm 1)),cl (some (n + 1)) f [tm n]],fun n=>(.block 0 (uvCases K uvEs n).1,(uvCases K uvEs n).2)],
 gOps 1 fun n=>[mk (some n) (.move (tm 0)),mk (some 4) (.assign (tm n))],gCode .ret]
theorem len8_ok:∀ y,y < 256->(len8.getD y 0).toNat<=8/\y < 2 ^ (len8.getD y 0).toNat/\((len8.getD y 0).toNat=0 \/ 2 ^ ((len8.getD y 0).toNat - 1)<=y):=by decide +kernel
section
variable {P:Program} {K:Kn}
theorem wl_shr {ops:Array Oper} {Q:Exit->Act->World->Prop} {r:List Oper} {a:Act} {w:World} {d:Option Nat} {T:Nat} {y:Operand} {k:IntKind} {x:Int} {s:Nat} (hy:a.eval y=.int k x) (hs:s<=k.bits)
  (h:wpList P ops Q r (a.put d (.int k (x / 2 ^ s))) w):wpList P ops Q (mk d (.binOp .shr T y (ki .u64 s) 0) :: r) a w:=by
 refine ql_ (w':=w) ?_ h
 have e2:a.eval (ki .u64 s)=.int .u64 s:=rfl
 have hrun:=run_shr (P:=P) (k:=k) (A:=T) (x:=x) hs w
 simp [execOp,mk,hy,e2,eqGuard,hrun]
theorem wl_index {ops:Array Oper} {Q:Exit->Act->World->Prop} {r:List Oper} {a:Act} {w:World} {d:Option Nat} {T:Nat} {y:Operand} {l:List UInt8} {k:IntKind} {i:Nat} {b:UInt8} (hT:P.underlying T=some .string) (hy:a.eval y=.int k i) (hi:l[i]?=some b)
  (h:wpList P ops Q r (a.put d (.int .u8 (b.toNat:Int))) w):wpList P ops Q (mk d (.index T (.const (strV l)) y) :: r) a w:=by
 refine ql_ (w':=w) ?_ h
 have e2:a.eval (.const (strV l))=.string ⟨l.toArray⟩:=rfl
 have e3:(⟨l.toArray⟩:ByteArray)[i]?=some b:=by
  have hlt:i < l.length:=(List.getElem?_eq_some_iff.1 hi).1
  have hb:=(List.getElem?_eq_some_iff.1 hi).2
  rw [getElem?_pos _ i (by simpa [ByteArray.size] using hlt)]
  congr 1
 simp [execOp,mk,hy,e2,Instr.index,asIntOf,run_underlying hT,e3]
theorem len8_get {y:Nat} (h:y < 256):len8[y]?=some (len8.getD y 0):=by
 have hl:len8.length=256:=by simp [len8]
 rw [List.getD_eq_getElem?_getD,List.getElem?_eq_getElem (by omega)]
 rfl
theorem uvTab_get {y:Nat} (h:y < 256):uvTab[y]?=some (uvTab.getD y 0):=by
 have hl:uvTab.length=256:=by simp [uvTab]
 rw [List.getD_eq_getElem?_getD,List.getElem?_eq_getElem (by omega)]
 rfl
theorem wrap_small {k:IntKind} {m:Nat} (h:m < 128):k.wrap (m:Int)=m:=by
 cases k <;> simp [IntKind.wrap,IntKind.bits,IntKind.signed] <;> omega
theorem wrap_u8 {m:Nat} (h:m < 256):IntKind.u8.wrap (m:Int)=m:=by
 simp [IntKind.wrap,IntKind.bits,IntKind.signed];omega
theorem u8_i64 (b:UInt8):IntKind.i64.wrap (b.toNat:Int)=(b.toNat:Int):=by
 have:=b.toNat_lt
 simp [IntKind.wrap,IntKind.bits,IntKind.signed];omega
theorem run_add {k:IntKind} {A:Nat} {x y:Int} (w:World):(binOp .add A (.int k x) (.int k y)).run P w=.ok (.int k (k.wrap (x + y))) w:=by simp [binOp,Op.intArith]
end
section
variable {P:Program} {K:Kn}
theorem wl_slNil {ops:Array Oper} {Q:Exit->Act->World->Prop} {l:List Oper} {a:Act} {w:World} {d:Option Nat} {tS el:Nat} {x:Operand} {m:Option Addr} {n c:Nat} (hM:P.underlying tS=some (.slice el)) (hx:a.eval x=.slice m n c) (h:wpList P ops Q l (a.put d (.bool m.isNone)) w) :
  wpList P ops Q (mk d (.binOp .eql tS x (.const (.slice none 0 0)) 0) :: l) a w:=by
 refine ql_ ?_ h
 have hc:a.eval (.const (.slice none 0 0))=.slice none 0 0:=rfl
 have he:(eqGuard .eql tS x (.const (.slice none 0 0)) (.slice m n c) (.slice none 0 0)).run P w=.ok () w:=by simp [eqGuard]
 have hr:(binOp .eql tS (.slice m n c) (.slice none 0 0)).run P w=.ok (.bool m.isNone) w:=by
  have h1:(Op.equal tS (.slice m n c) (.slice none 0 0)).run P w=.ok m.isNone w:=by
   cases m with
   | none=>exact (show (Op.equalIn (9999 + 1) tS (.slice none n c) (.slice none 0 0)).run P w=_ from by
     have:∀ d:Nat,(Op.equalIn (d + 1) tS (.slice none n c) (.slice none 0 0)).run P w=.ok true w:=fun d=>by simp [Op.equalIn,run_underlying hM]
     exact this 9999)
   | some r=>exact (show (Op.equalIn (9999 + 1) tS (.slice (some r) n c) (.slice none 0 0)).run P w=_ from by
     have:∀ d:Nat,(Op.equalIn (d + 1) tS (.slice (some r) n c) (.slice none 0 0)).run P w=.ok false w:=fun d=>by simp [Op.equalIn,run_underlying hM]
     exact this 9999)
  simp [binOp,h1]
 simp [execOp,mk,hx,hc,he,hr]
theorem wl_lenStr {ops:Array Oper} {Q:Exit->Act->World->Prop} {r:List Oper} {a:Act} {w:World} {d:Option Nat} {x:Operand} {T ty:Nat} {l:Bs} (hx:a.eval x=.string ⟨l.toArray⟩) (hT:P.underlying T=some .string)
  (h:wpList P ops Q r (a.put d (.int .i64 l.length)) w):wpList P ops Q (bi d .len [x] [T] ty :: r) a w:=by
 refine wpList_plain rfl fun _ hK=>?_
 unfold Oper.wp
 have:(execOp a.eval (bi d .len [x] [T] ty)).run P w=.ok (.value (.int .i64 l.length)) w:=by
  have hsz:ByteArray.size ⟨l.toArray⟩=l.length:=List.size_toArray
  simp [execOp,bi,resolve,invoke,hx,builtin,Builtin.len_,run_underlying hT,goInt,hsz]
 rw [this]
 exact hK _ _ h
end
structure Sm where
 fDef:Nat
 fSame:Nat
 F:Nat
 sz:Nat
 toff:Nat
 ds:List (Nat × Option Prim × Int)
structure GW where
 ap:PF->Nat
 alen:Nat
 calen:Nat
 nalen:Nat
 cnalen:Nat
 uv:Nat
 tlen:Nat
 teach:Nat
 tVer:Nat
 tInt:Nat
 tU32:Nat
 tSl:Nat
 tUuid:Nat
 sm:List Sm:=[]
end Go.Proofs.Ytlnmiphokmhajaa.Kx
