/-
  PLAIN LAWS AND CONTRACTS of messages, part 9 of 15: how readers and writers are printed, what they do, what the reference writes, and that what is written is read as the same. Nothing of a statement stands here.
-/
import Derived.Test.YtlmanancakaapaaGreatDoorK1
import Derived.Test.YtlmanancakaapaaGreatDoorK3
import Derived.Test.YtlmanancakaapaaGreatDoorK4
import Derived.Test.YtlmanancakaapaaGreatDoorK7
import Derived.Deep.AppendSrc
import Derived.Laws.AppendOwn

namespace Go.Proofs.YtlmanancakaapaaGreatDoor.Kx
open Go
def LIM:Nat:=70400000000000
def octv (b:UInt8):Value:=.int .u8 (b.toNat:Int)
def jh_ (w:World) (L te:Nat) (d:Value) (bs:Bs):Prop:=
 (d=.slice none 0 0/\bs=[]) \/
 ∃ (g c:Nat) (cur:Array Value),d=.slice (some ⟨g,0,none⟩) bs.length c/\L<=g/\w.heap[g]?=some (.cells cur te (0,0))/\bs.length<=c/\c<=maxLen/\cur.size=c/\∀ (i:Nat) (x:UInt8),bs[i]?=some x->cur[i]?=some (octv x)
structure Gr (L te:Nat) (d:Value) (w:World) (d':Value) (bs':Bs) (w':World):Prop where
 dst:jh_ w' L te d' bs'
 keeps:Keeps (fun k=>d.ownBlock=some k) w w'
 own:∀ k,d'.ownBlock=some k->d.ownBlock=some k \/ w.heap.size<=k
section
variable {L te:Nat} {d d1 d':Value} {w w1 w':World} {bs bs1 bs':Bs}
theorem jh_.own (h:jh_ w L te d bs) {k:Nat} (hk:d.ownBlock=some k):L<=k/\k < w.heap.size:=by
 rcases h with ⟨rfl,_⟩ | ⟨g,c,cur,rfl,hL,hg,_⟩
 ·cases hk
 ·obtain rfl:g=k:=Option.some.inj hk
  exact ⟨hL,(Array.getElem?_eq_some_iff.1 hg).1⟩
theorem jh_.away {b:Nat} (h:jh_ w L te d bs) (hb:b < L) (hL:L<=w.heap.size):b < w.heap.size/\d.ownBlock ≠ some b:=⟨by omega,fun hh=>by have:=(h.own hh).1;omega⟩
theorem jh_.keep {X:Nat->Prop} (h:jh_ w L te d bs) (hk:Keeps X w w') (hx:∀ k,d.ownBlock=some k->¬ X k):jh_ w' L te d bs:=by
 rcases h with h | ⟨g,c,cur,rfl,hL,hg,h⟩
 ·exact .inl h
 ·exact .inr ⟨g,c,cur,rfl,hL,by rw [hk.block g (Array.getElem?_eq_some_iff.1 hg).1 (hx g rfl)];exact hg,h⟩
theorem jh_.nil (w:World) (L te:Nat):jh_ w L te (.slice none 0 0) []:=.inl ⟨rfl,rfl⟩
theorem Gr.refl (h:jh_ w L te d bs):Gr L te d w d bs w:=⟨h,Keeps.refl _ _,fun _ h=>.inl h⟩
theorem Gr.trans (h:Gr L te d w d1 bs1 w1) (k:Gr L te d1 w1 d' bs' w'):Gr L te d w d' bs' w':=
 ⟨k.dst,⟨k.keeps.os.trans h.keeps.os,k.keeps.tape.trans h.keeps.tape,k.keeps.output.trans h.keeps.output,Nat.le_trans h.keeps.size k.keeps.size,fun i hi hx=>by
   have hs:=h.keeps.size
   rw [k.keeps.block i (by omega) (fun hh=>by rcases h.own i hh with h1 | h1;exact hx h1;omega),h.keeps.block i hi hx]⟩,
  fun i hi=>by
   have hs:=h.keeps.size
   rcases k.own i hi with h1 | h1
   ·exact h.own i h1
   ·exact .inr (by omega)⟩
theorem Gr.far (hd:jh_ w L te d bs) (h:Gr L te d w d' bs' w'):Keeps (fun k=>L<=k) w w':=h.keeps.mono fun _ _ hk=>(hd.own hk).1
theorem Gr.pre {X:Nat->Prop} (hk:Keeps X w w1) (hx:∀ k,k < w.heap.size->¬ X k) (h:Gr L te d w1 d' bs' w'):Gr L te d w d' bs' w':=
 ⟨h.dst,⟨h.keeps.os.trans hk.os,h.keeps.tape.trans hk.tape,h.keeps.output.trans hk.output,Nat.le_trans hk.size h.keeps.size,fun i hi hi2=>by
   have hs:=hk.size
   rw [h.keeps.block i (by omega) hi2,hk.block i hi (hx i hi)]⟩,fun i hi=>by
  have hs:=hk.size
  rcases h.own i hi with h1 | h1
  ·exact .inl h1
  ·exact .inr (by omega)⟩
theorem Gr.post {X:Nat->Prop} (h:Gr L te d w d' bs' w1) (hk:Keeps X w1 w') (hx:∀ k,X k->w.heap.size<=k/\d'.ownBlock ≠ some k):Gr L te d w d' bs' w':=
 ⟨h.dst.keep hk (fun k hk hX=>(hx k hX).2 hk),⟨hk.os.trans h.keeps.os,hk.tape.trans h.keeps.tape,hk.output.trans h.keeps.output,Nat.le_trans h.keeps.size hk.size,fun i hi hi2=>by
   have hs:=h.keeps.size
   rw [hk.block i (by omega) (fun hX=>by have:=(hx i hX).1;omega),h.keeps.block i hi hi2]⟩,h.own⟩
end
structure OctT (P:Program) (tSl tU8:Nat):Prop where
 und:P.underlying tSl=some (.slice tU8)
 info:∃ i z,P.info? tU8=some i/\i.zero=some z/\i.size=1/\i.bytes=1/\z.cells.size=1
section
variable {P:Program} {tSl te:Nat}
theorem run_append_dst (ot:OctT P tSl te) {tx ty:TypeId} {L:Nat} {d x:Value} {w:World} {bs l:Bs} (hd:jh_ w L te d bs) (hs:Src P 1 tx x l.length (l.map octv) w) (hL:L<=w.heap.size) (hlim:bs.length + l.length<=LIM) :
  ∃ d' w',(Builtin.append_ #[tSl,tx] ty #[d,x]).run P w=.ok d' w'/\Gr L te d w d' (bs++l) w':=by
 obtain ⟨i,z,hi,hz,hsz,hby,hzs⟩:=ot.info
 have ht:=ot.und
 simp only [LIM] at hlim
 have hs':Src P i.size tx x l.length (l.map octv) w:=by rw [hsz];exact hs
 have grown:∀ (base:Option Addr) (old:Nat),old < bs.length + l.length->d.ownBlock=d.ownBlock->(Builtin.firstCells i.size bs.length (.slice base bs.length old)).run P w.drew=.ok (bs.map octv).toArray w.drew ->
   ∃ d' w',(Builtin.append_ #[tSl,tx] ty #[.slice base bs.length old,x]).run P w=.ok d' w'/\Gr L te d w d' (bs++l) w':=by
  intro base old ho _ hold
  have hr:=run_append_grow_src (P:=P) w tSl tx ty te i z ht hi hz base bs.length old (bs.map octv) hold x l.length (l.map octv) hs' ho (by omega) (growslice_fits ho (by rw [hby];omega))
  refine ⟨_,_,hr,?_⟩
  have hge:=grownCap_ge w (bs.length + l.length) old te
  have hcm:grownCap w (bs.length + l.length) old te<=maxLen:=grownCap_le_maxLen w _ old te (by simp only [maxLen];omega)
  refine ⟨.inr ⟨w.heap.size,_,_,by rw [List.length_append],hL,Go.heap_alloc_new w.drew _,by rw [List.length_append];exact hge,hcm,?_,?_⟩,⟨rfl,rfl,rfl,by simp,fun k hk _=>q4_ (w:=w.drew) hk⟩,fun k hk=>?_⟩
  ·simp only [Array.size_append,List.size_toArray,size_zeroCells,hzs,List.length_append,List.length_map]
   omega
  ·intro j u hj
   have hjl:j < (bs++l).length:=(List.getElem?_eq_some_iff.1 hj).1
   rw [Array.getElem?_append_left (by simp only [List.size_toArray,List.length_append,List.length_map];rw [List.length_append] at hjl;exact hjl)]
   rw [List.getElem?_toArray,<- List.map_append,List.getElem?_map,hj]
   rfl
  ·right
   simp only [Value.ownBlock,Option.some.injEq] at hk
   omega
 rcases hd with ⟨rfl,rfl⟩ | ⟨g,c,cur,rfl,hgL,hg,hnc,hcm,hcs,hat⟩
 ·by_cases h0:l.length=0
  ·have hl:l=[]:=List.eq_nil_of_length_eq_zero h0
   subst hl
   refine ⟨.slice none 0 0,w,?_,Gr.refl (jh_.nil _ _ _)⟩
   have h1:=hs.len
   have h2:=hs.cells
   simp only [List.length_nil,List.map_nil] at h1 h2
   rcases hs.kind with ⟨e',hk⟩ | hk <;> simp [Builtin.append_,run_underlying ht,run_underlying hk,sizeOf,typeInfo,hi,hsz,h1,h2]
  ·refine grown none 0 (by simp only [List.length_nil];omega) rfl ?_
   simp [Builtin.firstCells]
 ·by_cases hroom:bs.length + l.length<=c
  ·have hst:=run_storeCells_at P g bs.length te (l.map octv) 0 cur w hg (by rw [List.length_map];omega) hs.one
   simp only [Nat.add_zero] at hst
   have hr:(Builtin.append_ #[tSl,tx] ty #[.slice (some ⟨g,0,none⟩) bs.length c,x]).run P w=.ok (.slice (some ⟨g,0,none⟩) (bs.length + l.length) c) (w.setRow g (qt_ cur bs.length (l.map octv))):=by
    rcases hs.kind with ⟨e',hk⟩ | hk <;> simp [Builtin.append_,run_underlying ht,run_underlying hk,sizeOf,typeInfo,hi,hsz,hs.len,hroom,hs.cells,Addr.add_lit,hst,qt_]
   refine ⟨_,_,hr,.inr ⟨g,c,_,by rw [List.length_append],hgL,setRow_heap _ _ _ _ _ _ hg,by rw [List.length_append];exact hroom,hcm,?_,?_⟩,Keeps.setRow _ _ _ _ rfl,fun k hk=>.inl hk⟩
   ·rw [z9_ (by rw [List.length_map];omega)];exact hcs
   ·intro j u hj
    by_cases hjb:j < bs.length
    ·rw [zn_ (by rw [List.length_map];omega) j (.inl hjb)]
     rw [List.getElem?_append_left hjb] at hj
     exact hat j u hj
    ·rw [List.getElem?_append_right (by omega)] at hj
     have:=jw_ (cur:=cur) (o:=bs.length) (vs:=l.map octv) (by rw [List.length_map];omega) (j - bs.length) (by have:=(List.getElem?_eq_some_iff.1 hj).1;rw [List.length_map];exact this)
     rw [show bs.length + (j - bs.length)=j by omega] at this
     rw [this,List.getElem?_map,hj]
     rfl
  ·refine grown (some ⟨g,0,none⟩) c (by omega) rfl ?_
   have:=run_loadCells_list (P:=P) w.drew ⟨g,0,none⟩ (bs.map octv) (fun j u hj=>by
    rw [List.getElem?_map,Option.map_eq_some_iff] at hj
    obtain ⟨b,hb,rfl⟩:=hj
    rw [Addr.add_lit]
    have hg':w.drew.heap[g]?=some (.cells cur te (0,0)):=hg
    simp [World.cell?,hg',hat j b hb])
   simp only [List.length_map] at this
   simp [Builtin.firstCells,hsz,this]
theorem wl_appendDst (ot:OctT P tSl te) {tx ty:TypeId} {ops:Array Oper} {Q:Exit->Act->World->Prop} {r:List Oper} {a:Act} {dd:Option Nat} {p q:Operand} {L:Nat} {d x:Value} {w:World} {bs l:Bs} (hp:a.eval p=d) (hq:a.eval q=x)
  (hd:jh_ w L te d bs) (hs:Src P 1 tx x l.length (l.map octv) w) (hL:L<=w.heap.size) (hlim:bs.length + l.length<=LIM)
  (h:∀ d' w',Gr L te d w d' (bs++l) w'->wpList P ops Q r (a.put dd d') w'):wpList P ops Q (bi dd .append [p,q] [tSl,tx] ty :: r) a w:=by
 obtain ⟨d',w',hr,hg⟩:=run_append_dst (ty:=ty) ot hd hs hL hlim
 refine wpList_plain rfl fun _ hK=>?_
 unfold Oper.wp
 have:(execOp a.eval (bi dd .append [p,q] [tSl,tx] ty)).run P w=.ok (.value d') w':=by
  simp [execOp,bi,resolve,invoke,hp,hq,builtin,hr]
 rw [this]
 exact hK _ _ (h d' w' hg)
theorem src_oct (ot:OctT P tSl te) {w:World} {g o c:Nat} {l:Bs} (h:OctAt w g o l):Src P 1 tSl (.slice (some ⟨g,o,none⟩) l.length c) l.length (l.map octv) w:=
 Src.ofSlice w ot.und ⟨g,o,none⟩ l.length c _ (by simp) (fun j u hj=>by
  rw [List.getElem?_map,Option.map_eq_some_iff] at hj
  obtain ⟨b,hb,rfl⟩:=hj
  rw [Addr.add_lit]
  exact h j b hb) oct_one
theorem src_nil (ot:OctT P tSl te) (w:World) (c:Nat):Src P 1 tSl (.slice none 0 c) ([]:Bs).length (([]:Bs).map octv) w:=Src.ofNil w ot.und c
theorem src_str {tStr:Nat} (hk:P.underlying tStr=some .string) (w:World) (l:Bs):Src P 1 tStr (.string ⟨l.toArray⟩) l.length (l.map octv) w:=by
 have:=Src.ofString (P:=P) w hk ⟨l.toArray⟩
 exact this
end
abbrev OE:=Option Nat × Bool
def oeLen (e:OE):Nat:=2 + (if e.1.isSome then 1 else 0) + (if e.2 then 2 else 0)
def oeOps (K:Kn) (tX:Nat) (k:IntKind) (e:OE) (n:Nat):List Oper:=
 mk (some n) (.move (tm 1)) ::
 ((match e.1 with | some s=>[mk (some (n + 1)) (.binOp .shr tX (tm n) (ki .u64 s) 0)] | none=>[]) ++
 let q:=n + (if e.1.isSome then 1 else 0)
 (if e.2 then [mk (some (q + 1)) (.binOp .and tX (tm q) (ki k 127) 0),mk (some (q + 2)) (.binOp .or tX (tm (q + 1)) (ki k 128) 0),mk (some (q + 3)) (.convert tX K.tU8 (tm (q + 2)))]
  else [mk (some (q + 1)) (.convert tX K.tU8 (tm q))]))
def oesOps (K:Kn) (tX:Nat) (k:IntKind):List OE->Nat->List Oper
 | [],_=>[]
 | e :: r,n=>oeOps K tX k e n++oesOps K tX k r (n + oeLen e)
def oesLen:List OE->Nat
 | []=>0
 | e :: r=>oeLen e + oesLen r
def oesSlots:List OE->Nat->List Nat
 | [],_=>[]
 | e :: r,n=>(n + oeLen e - 1) :: oesSlots r (n + oeLen e)
def oeVal (e:OE) (x:Int):UInt8:=UInt8.ofNat (if e.2 then (x / 2 ^ (e.1.getD 0) % 128 + 128).toNat else (x / 2 ^ (e.1.getD 0) % 256).toNat)
def j7_ (es:List OE) (x:Int):Bs:=es.map fun e=>oeVal e x
def ixs:Nat->List Nat->List (Nat × Operand)
 | _,[]=>[]
 | i,s :: r=>(i,tm s) :: ixs (i + 1) r
def gAppO (K:Kn) (tX:Nat) (k:IntKind) (es:List OE):GC:=gS [qu_ (3 + oesLen es) fun n=>mk (some n) (.move (tm 0)) :: (oesOps K tX k es (n + 1) ++
  [mk (some (n + 1 + oesLen es)) (.buildSlice K.tSl es.length (ixs 0 (oesSlots es (n + 1))).toArray),bi (some (n + 2 + oesLen es)) .append [tm n,tm (n + 1 + oesLen es)] [K.tSl,K.tSl] K.tSl,mk (some 4) (.assign (tm (n + 2 + oesLen es)))]),q3_ .ret]
section
variable {P:Program} {g:G} {K:Kn}
theorem run_shr {k:IntKind} {A:Nat} {x:Int} {s:Nat} (hs:s<=k.bits) (w:World):(binOp .shr A (.int k x) (.int .u64 (s:Int))).run P w=.ok (.int k (x / 2 ^ s)) w:=by
 have h1:¬ ((s:Int) < 0):=by omega
 have h2:min s k.bits=s:=by omega
 have h3:(0:Int)<=2 ^ s:=by
  have:=Int.pow_pos (n:=2) (m:=s) (by omega)
  omega
 simp only [binOp,Op.shift,h1,if_false,Int.toNat_natCast,h2,Sem.run_pure,Int.fdiv_eq_ediv_of_nonneg _ h3]
theorem run_and127 {k:IntKind} (hk:uk k) {A m:Nat} (hm:m < 2 ^ k.bits) (w:World):(binOp .and A (.int k (m:Int)) (.int k 127)).run P w=.ok (.int k ((m % 128:Nat):Int)) w:=by
 have e1:BitVec.ofInt k.bits (m:Int)=BitVec.ofNat k.bits m:=by simp
 have e2:BitVec.ofInt k.bits 127=BitVec.ofNat k.bits 127:=BitVec.ofInt_natCast (n:=127) ..
 have h127:127 < 2 ^ k.bits:=by rcases hk with rfl | rfl | rfl <;> decide
 have e4:(BitVec.ofNat k.bits m &&& BitVec.ofNat k.bits 127).toNat=m % 128:=by
  rw [BitVec.toNat_and,BitVec.toNat_ofNat,BitVec.toNat_ofNat,Nat.mod_eq_of_lt hm,Nat.mod_eq_of_lt h127]
  exact Nat.and_two_pow_sub_one_eq_mod m 7
 have hkk:(k ≠ k)=False:=by simp
 have h3:m % 128 < 2 ^ k.bits:=by omega
 simp only [binOp,hkk,if_false,Op.intBits,e1,e2,e4,uk_wrap hk h3,Sem.run_pure]
theorem run_or128 {k:IntKind} (hk:uk k) {A m:Nat} (hm:m < 128) (w:World):(binOp .or A (.int k (m:Int)) (.int k 128)).run P w=.ok (.int k ((m + 128:Nat):Int)) w:=by
 have e1:BitVec.ofInt k.bits (m:Int)=BitVec.ofNat k.bits m:=by simp
 have e2:BitVec.ofInt k.bits 128=BitVec.ofNat k.bits 128:=BitVec.ofInt_natCast (n:=128) ..
 have h256:256<=2 ^ k.bits:=by rcases hk with rfl | rfl | rfl <;> decide
 have e3:m ||| 128=m + 128:=by
  have:=Nat.two_pow_add_eq_or_of_lt (i:=7) (b:=m) (by omega) 1
  rw [Nat.or_comm]
  simp at this
  omega
 have e4:(BitVec.ofNat k.bits m ||| BitVec.ofNat k.bits 128).toNat=m + 128:=by
  rw [BitVec.toNat_or,BitVec.toNat_ofNat,BitVec.toNat_ofNat,Nat.mod_eq_of_lt (by omega),Nat.mod_eq_of_lt (by omega),e3]
 have hkk:(k ≠ k)=False:=by simp
 simp only [binOp,hkk,if_false,Op.intBits,e1,e2,e4,uk_wrap hk (show m + 128 < 2 ^ k.bits by omega),Sem.run_pure]
theorem wrap8 (y:Int):IntKind.u8.wrap y=((UInt8.ofNat (y % 256).toNat).toNat:Int):=by
 simp [IntKind.wrap,IntKind.bits,IntKind.signed]
 omega
theorem wl_oe2 {tX:Nat} {k:IntKind} (hX:P.underlying tX=some (.int k)) (h8:P.underlying K.tU8=some (.int .u8)) {ops:Array Oper} {Q:Exit->Act->World->Prop} {r:List Oper} {a:Act} {w:World} {y:Int} {m:Bool} {q:Nat}
  (hq:a.get q=.int k y) (hm:m=true->uk k/\0<=y/\y < 2 ^ k.bits) (hs:q + (if m then 3 else 1) < a.tmps.size)
  (h:∀ a',Pv (q + 1) 0 0 (q + 1) a a'->a'.get (q + (if m then 3 else 1))=octv (UInt8.ofNat (if m then (y % 128 + 128).toNat else (y % 256).toNat))->wpList P ops Q r a' w) :
  wpList P ops Q ((if m then [mk (some (q + 1)) (.binOp .and tX (tm q) (ki k 127) 0),mk (some (q + 2)) (.binOp .or tX (tm (q + 1)) (ki k 128) 0),mk (some (q + 3)) (.convert tX K.tU8 (tm (q + 2)))] else [mk (some (q + 1)) (.convert tX K.tU8 (tm q))])++r) a w:=by
 cases m with
 | false=>
  simp only [Bool.false_eq_true,if_false] at hs h ⊢
  refine qw_ (k:=k) (k':=.u8) (m:=y) hq hX h8 (h _ ((Pv.refl _ _ _ _ _).put _ (.inl rfl)) ?_)
  rw [zw_ _ _ _ hs,wrap8]
  rfl
 | true=>
  simp only [if_true] at hs h ⊢
  obtain ⟨hk,h0,hb⟩:=hm rfl
  obtain ⟨y',rfl⟩:=Int.eq_ofNat_of_zero_le h0
  have hb':y' < 2 ^ k.bits:=by exact_mod_cast hb
  refine zk_ (k:=k) (m:=y') (n:=127) hq rfl (by simp) (run_and127 hk hb' w) ?_
  refine zk_ (k:=k) (m:=((y' % 128:Nat):Int)) (n:=128) (by rw [qb_,gpe (by omega)]) rfl (by simp) (run_or128 hk (by omega) w) ?_
  refine qw_ (k:=k) (k':=.u8) (m:=((y' % 128 + 128:Nat):Int)) (by rw [qb_,gpe (by simp only [qa_];omega)]) hX h8 (h _ ((((Pv.refl _ _ _ _ _).put _ (.inl rfl)).put _ (.inr (by omega))).put _ (.inr (by omega))) ?_)
  rw [gpe (by simp only [qa_];omega),wrap8]
  have e1:(((y' % 128 + 128:Nat):Int) % 256).toNat=y' % 128 + 128:=by omega
  have e2:((y':Int) % 128 + 128).toNat=y' % 128 + 128:=by omega
  rw [e1,e2]
  rfl
theorem wl_oe {tX:Nat} {k:IntKind} (hX:P.underlying tX=some (.int k)) (h8:P.underlying K.tU8=some (.int .u8)) {ops:Array Oper} {Q:Exit->Act->World->Prop} {r:List Oper} {a:Act} {w:World} {x:Int} {e:OE} {n:Nat} (h1n:1 < n)
  (h1:a.get 1=.int k x) (hok:e=(none,false) \/ (uk k/\0<=x/\x < 2 ^ k.bits/\∀ s,e.1=some s->s<=k.bits)) (hs:n + oeLen e<=a.tmps.size)
  (h:∀ a',Pv n 0 0 n a a'->a'.get (n + oeLen e - 1)=octv (oeVal e x)->wpList P ops Q r a' w):wpList P ops Q (oeOps K tX k e n++r) a w:=by
 obtain ⟨s,m⟩:=e
 have hP1:Pv n 0 0 n a (a.put (some n) (.int k x)):=(Pv.refl _ _ _ _ _).put _ (.inl rfl)
 refine qd_ ?_
 rw [qb_,h1]
 cases s with
 | none=>
  show wpList P ops Q ((if m then _ else _)++r) _ w
  refine wl_oe2 (q:=n) (y:=x) hX h8 (gpe (by simp only [oeLen] at hs;omega)) (fun hm=>?_) (by simp only [qa_];simp only [oeLen] at hs;cases m <;> simp at hs ⊢ <;> omega) fun a' hp hg=>h a' (hP1.trans ⟨hp.size,hp.defers,fun s hs1 hs2=>hp.get s (by omega) (by omega)⟩) ?_
  ·subst hm
   rcases hok with hok | ⟨h2,h3,h4,_⟩
   ·cases hok
   ·exact ⟨h2,h3,h4⟩
  ·rw [show n + oeLen (none,m) - 1=n + (if m then 3 else 1) by cases m <;> simp [oeLen]]
   rw [hg]
   simp [oeVal]
 | some s=>
  rcases hok with hok | ⟨h2,h3,h4,h5⟩
  ·cases hok
  have hsb:=h5 s rfl
  show wpList P ops Q (mk (some (n + 1)) (.binOp .shr tX (tm n) (ki .u64 s) 0) :: ((if m then _ else _)++r)) _ w
  have hsz:n + 1 < a.tmps.size:=by simp only [oeLen] at hs;cases m <;> simp at hs <;> omega
  have hrun:=run_shr (P:=P) (k:=k) (A:=tX) (x:=x) hsb w
  refine qn_ (v:=.int k (x / 2 ^ s)) (w':=w) ?_ ?_
  ·have e1:(a.put (some n) (.int k x)).eval (tm n)=.int k x:=by rw [qb_,gpe (by omega)]
   have e2:(a.put (some n) (.int k x)).eval (ki .u64 s)=.int .u64 s:=rfl
   simp [execOp,mk,e1,e2,eqGuard,hrun]
  ·have hpos:(0:Int) < 2 ^ s:=Int.pow_pos (by omega)
   have hy0:0<=x / 2 ^ s:=Int.ediv_nonneg h3 (by omega)
   have hyb:x / 2 ^ s < 2 ^ k.bits:=Int.lt_of_le_of_lt (Int.ediv_le_self _ h3) h4
   refine wl_oe2 (q:=n + 1) (y:=x / 2 ^ s) hX h8 (gpe (by simp only [qa_];omega)) (fun hm=>⟨h2,hy0,hyb⟩) (by simp only [qa_];simp only [oeLen] at hs;cases m <;> simp at hs ⊢ <;> omega) fun a' hp hg=>
    h a' ((hP1.put _ (.inr (by omega))).trans ⟨hp.size,hp.defers,fun s hs1 hs2=>hp.get s (by omega) (by omega)⟩) ?_
   rw [show n + oeLen (some s,m) - 1=n + 1 + (if m then 3 else 1) by cases m <;> simp [oeLen]]
   rw [hg]
   simp [oeVal]
theorem oeLen_pos (e:OE):2<=oeLen e:=by simp only [oeLen];omega
theorem wl_oes {tX:Nat} {k:IntKind} (hX:P.underlying tX=some (.int k)) (h8:P.underlying K.tU8=some (.int .u8)) {ops:Array Oper} {Q:Exit->Act->World->Prop} {r:List Oper} {w:World} {x:Int} :
  ∀ (es:List OE) (n:Nat) (a:Act),1 < n->a.get 1=.int k x->(∀ e ∈ es,e=(none,false) \/ (uk k/\0<=x/\x < 2 ^ k.bits/\∀ s,e.1=some s->s<=k.bits))->n + oesLen es<=a.tmps.size ->
  (∀ a',Pv n 0 0 n a a'->(oesSlots es n).map a'.get=(j7_ es x).map octv->(∀ s ∈ oesSlots es n,n<=s)->wpList P ops Q r a' w)->wpList P ops Q (oesOps K tX k es n++r) a w
 | [],n,a,_,_,_,_,h=>h a (Pv.refl _ _ _ _ _) rfl (by simp [oesSlots])
 | e :: es,n,a,h1n,h1,hok,hs,h=>by
  have hl:=oeLen_pos e
  simp only [oesLen] at hs
  show wpList P ops Q ((oeOps K tX k e n++oesOps K tX k es (n + oeLen e))++r) a w
  rw [List.append_assoc]
  refine wl_oe hX h8 h1n h1 (hok e (List.mem_cons_self ..)) (by omega) fun a1 hp1 hg1=>?_
  have hsz1:=hp1.size
  refine wl_oes hX h8 es (n + oeLen e) a1 (by omega) (by rw [hp1.get 1 (by omega) (by omega)];exact h1) (fun e' he=>hok e' (List.mem_cons_of_mem _ he)) (by omega) fun a2 hp2 hg2 hge=>?_
  refine h a2 (hp1.trans ⟨hp2.size,hp2.defers,fun s hs1 hs2=>hp2.get s (by omega) (by omega)⟩) ?_ ?_
  ·simp only [oesSlots,j7_,List.map_cons]
   rw [hp2.get (n + oeLen e - 1) (by omega) (by omega),hg1,hg2]
   rfl
  ·intro s hs
   simp only [oesSlots,List.mem_cons] at hs
   rcases hs with rfl | hs
   ·omega
   ·have:=hge s hs;omega
def prs:Nat->List Value->List (Nat × Value)
 | _,[]=>[]
 | i,v :: r=>(i,v) :: prs (i + 1) r
theorem fill_one:∀ (vs:List Value) (i:Nat) (cur:Array Value),(∀ v ∈ vs,v.cells=#[v])->i + vs.length<=cur.size->Instr.fill (fun i=>some (i,1)) cur (prs i vs)=some (qt_ cur i vs)
 | [],i,cur,_,h=>by simp [prs,Instr.fill,qt_]
 | v :: vs,i,cur,h1,h=>by
  have hv:=h1 v (List.mem_cons_self ..)
  simp only [List.length_cons] at h
  have ih:=fill_one vs (i + 1) (cur.setIfInBounds i v) (fun u hu=>h1 u (List.mem_cons_of_mem _ hu)) (by simp;omega)
  have hc:¬ (i + 1 > cur.size):=by omega
  simp only [prs,Instr.fill,hv]
  simp [hc]
  rw [ih]
  congr 1
  apply Array.ext'
  apply List.ext_getElem?
  intro j
  have e1:=@z9_ (cur.setIfInBounds i v) (i + 1) vs (by simp;omega)
  have e2:=@z9_ cur i (v :: vs) (by simp only [List.length_cons];omega)
  simp only [Array.getElem?_toList]
  by_cases hj:j < i
  ·rw [zn_ (by simp;omega) j (.inl (by omega)),zn_ (by simp only [List.length_cons];omega) j (.inl hj),Array.getElem?_setIfInBounds,if_neg (by omega)]
  ·by_cases hji:j=i
   ·subst hji
    have:=jw_ (cur:=cur) (o:=j) (vs:=v :: vs) (by simp only [List.length_cons];omega) 0 (by simp)
    rw [Nat.add_zero] at this
    rw [this,zn_ (by simp;omega) j (.inl (by omega)),Array.getElem?_setIfInBounds,if_pos rfl,if_pos (by omega)]
    rfl
   ·by_cases hjl:j < i + 1 + vs.length
    ·have h3:=jw_ (cur:=cur.setIfInBounds i v) (o:=i + 1) (vs:=vs) (by simp;omega) (j - (i + 1)) (by omega)
     have h4:=jw_ (cur:=cur) (o:=i) (vs:=v :: vs) (by simp only [List.length_cons];omega) (j - i) (by simp only [List.length_cons];omega)
     rw [show i + 1 + (j - (i + 1))=j by omega] at h3
     rw [show i + (j - i)=j by omega] at h4
     rw [h3,h4,show j - i=(j - (i + 1)) + 1 by omega]
     rfl
    ·rw [zn_ (by simp;omega) j (.inr (by omega)),zn_ (by simp only [List.length_cons];omega) j (.inr (by simp only [List.length_cons];omega)),Array.getElem?_setIfInBounds,if_neg (by omega)]
theorem ixs_eval (a:Act):∀ (ss:List Nat) (i:Nat),(ixs i ss).map (fun p=>(p.1,a.eval p.2))=prs i (ss.map a.get)
 | [],_=>rfl
 | s :: r,i=>by
  simp only [ixs,List.map_cons,prs,ixs_eval a r (i + 1)]
  rfl
theorem wl_buildSlice {tSl te:Nat} (ot:OctT P tSl te) {ops:Array Oper} {Q:Exit->Act->World->Prop} {r:List Oper} {a:Act} {w:World} {d:Nat} {ps:List (Nat × Operand)} {l:Bs} (hp:ps.map (fun p=>(p.1,a.eval p.2))=prs 0 (l.map octv)) (h0:l ≠ []) (hb:l.length<=16777216)
  (h:wpList P ops Q r (a.put (some d) (.slice (some ⟨w.heap.size,0,none⟩) l.length l.length)) (w.alloc (.cells (l.map octv).toArray te (0,0)))) :
  wpList P ops Q (mk (some d) (.buildSlice tSl l.length ps.toArray) :: r) a w:=by
 obtain ⟨i,z,hi,hz,hsz,hby,hzs⟩:=ot.info
 refine qn_ (w':=w.alloc (.cells (l.map octv).toArray te (0,0))) ?_ h
 have hl:l.length ≠ 0:=fun h=>h0 (List.eq_nil_of_length_eq_zero h)
 have hfill:=fill_one (l.map octv) 0 ((Array.range l.length).map fun k=>z.cells[k % z.cells.size]!) (fun v hv=>by
  obtain ⟨b,_,rfl⟩:=List.mem_map.1 hv
  rfl) (by simp)
 rw [zu_ (by simp)] at hfill
 have hm:(ps.toArray.map fun (p:Nat × Operand)=>(p.1,a.eval p.2)).toList=prs 0 (l.map octv):=by simpa using hp
 have hnb:¬ (l.length > 16777216):=by omega
 simp [execOp,mk,Instr.buildSlice,run_underlying ot.und,sizeOf,typeInfo,zeroValue,hi,hz,hsz,hnb,hl,hp,hfill,newRow,newObj,Sem.run]
theorem s_appO {tX:Nat} {k:IntKind} (ot:OctT P K.tSl K.tU8) (hX:P.underlying tX=some (.int k)) (h8:P.underlying K.tU8=some (.int .u8)) {es:List OE} {E N:Act->World->Prop} {a:Act} {w:World} {x:Int} {n L:Nat} {d:Value} {bs:Bs} (h1n:4 < n)
  (h0:a.get 0=d) (h1:a.get 1=.int k x) (hok:∀ e ∈ es,e=(none,false) \/ (uk k/\0<=x/\x < 2 ^ k.bits/\∀ s,e.1=some s->s<=k.bits)) (hes:es ≠ []) (hes2:es.length<=10) (hs:n + 3 + oesLen es<=a.tmps.size)
  (hd:jh_ w L K.tU8 d bs) (hL:L<=w.heap.size) (hlim:bs.length + es.length<=LIM)
  (h:∀ a' w' d',a'.defers=a.defers->a'.get 4=d'->Gr L K.tU8 d w d' (bs++j7_ es x) w'->E a' w'):NWP P (gAppO K tX k es n).1 (Rt N E) a w:=by
 refine q2_ (qc_ (qj_ (qd_ ?_)))
 rw [qb_,h0]
 refine wl_oes hX h8 es (n + 1) _ (by omega) (by rw [gpo (by omega)];exact h1) hok (by simp only [qa_];omega) fun a1 hp1 hg1 hge=>?_
 have hs1:=hp1.size
 simp only [qa_] at hs1
 have hlen:(j7_ es x).length=es.length:=by simp [j7_]
 rw [<- hlen]
 refine wl_buildSlice ot (by rw [ixs_eval,hg1]) (fun hh=>hes (by rw [hh] at hlen;exact List.eq_nil_of_length_eq_zero hlen.symm)) (by omega) ?_
 rw [hlen]
 have hk:Keeps (fun _=>False) w (w.alloc (.cells ((j7_ es x).map octv).toArray K.tU8 (0,0))):=Keeps.alloc _ _ _
 have hoct:OctAt (w.alloc (.cells ((j7_ es x).map octv).toArray K.tU8 (0,0))) w.heap.size 0 (j7_ es x):=by
  intro j b hj
  have:=qs_ w (.cells ((j7_ es x).map octv).toArray K.tU8 (0,0))
  simp only [World.cell?,this,Nat.zero_add,List.getElem?_toArray,List.getElem?_map,hj]
  rfl
 refine wl_appendDst ot (d:=d) (L:=L) (bs:=bs) (l:=j7_ es x) ?_ (x:=.slice (some ⟨w.heap.size,0,none⟩) (j7_ es x).length es.length) ?_ (hd.keep hk fun _ _ h=>h) (src_oct ot hoct) (by have:=hk.size;omega) (by rw [hlen];exact hlim) fun d' w' hg=>?_
 ·rw [qb_,gpo (by omega),hp1.get n (by omega) (by omega),gpe (by omega)]
 ·rw [qb_,gpe (by omega),hlen]
 refine qg_ (wpList_nil ?_)
 show LW P [q3_ .ret] _ _ _ _
 rw [qb_,gpe (by simp only [qa_];omega)]
 refine qc_ (.ret ?_)
 exact h _ w' d' (by simp only [qf_];rw [hp1.defers,qf_]) (gpe (by simp only [qa_];omega)) (Gr.pre hk (fun _ _ h=>h) hg)
end
structure WT (P:Program) (K:Kn):Prop where
 mixed:P.follows .mixedOrders=true
 oct:OctT P K.tSl K.tU8
 dU8:P.underlying K.tU8=some (.int .u8)
 dI8:za_ K.tI8=true->P.underlying K.tI8=some (.int .i8)
 dI16:P.underlying K.tI16=some (.int .i16)
 dU16:za_ K.tU16=true->P.underlying K.tU16=some (.int .u16)
 dI32:P.underlying K.tI32=some (.int .i32)
 dU32:P.underlying K.tU32=some (.int .u32)
 dInt:P.underlying K.tInt=some (.int .i64)
 dI64:za_ K.tI64=true->P.underlying K.tI64=some (.int .i64)
 dU64:za_ K.tU64=true->P.underlying K.tU64=some (.int .u64)
 dStr:P.underlying K.tStr=some .string
 vStr:jp_ P K.tStr false 1
def ApL (P:Program) (te f:Nat) (val:Value) (enc:Bs) (w:World) (L:Nat):Prop:=
 ∀ (d:Value) (bs:Bs),jh_ w L te d bs->L<=w.heap.size->bs.length + enc.length<=LIM->Calls P f #[d,val] w fun e w'=>∃ d',e=.returned d'/\Gr L te d w d' (bs++enc) w'
def ApC (P:Program) (te f:Nat) (val:Value) (enc:Bs) (w:World):Prop:=∀ L:Nat,ApL P te f val enc w L
def nilS:Value:=.slice none 0 0
def rd4 (n0:Nat) (l:List GC):Code:=(gS (ji_ 4 nilS :: l) n0).1
section
variable {P:Program} {g:G} {K:Kn}
theorem calls2 (hm:P.follows .mixedOrders=true) {f ntmps n0:Nat} {l:List GC} {y z:Value} {w:World} {RR:Ending->World->Prop} (hfn:FnIs P f ntmps [4] (gS l n0).1) (hnt:2<=ntmps)
  (h:∀ a,a.get 0=y->a.get 1=z->a.tmps.size=ntmps->a.defers=[]->LW P l n0 (Rt (fun _ _=>False) (fun a' w'=>a'.defers=[]/\RR (.returned (a'.get 4)) w')) a w):Calls P f #[y,z] w RR:=by
 refine hfn.calls hm (by simp) ?_
 have:=h { tmps:=#[y,z]++Array.replicate (ntmps - (#[y,z]:Array Value).size) undef,defers:=[] } (by rw [ja_ _ _ _ (by simp)];rfl) (by rw [ja_ _ _ _ (by simp)];rfl) (jo_ #[y,z] ntmps hnt) rfl
 exact rt_mono (q2_ this) (fun _ _ h=>h.elim) (fun a w h=>⟨h.1,h.2⟩)
theorem calls2s (hm:P.follows .mixedOrders=true) {f ntmps n0:Nat} {l:List GC} {y z:Value} {w:World} {RR:Ending->World->Prop} (hfn:FnIs P f ntmps [4] (rd4 n0 l)) (hnt:5<=ntmps)
  (h:∀ a,a.get 0=y->a.get 1=z->a.tmps.size=ntmps->a.defers=[]->LW P l n0 (Rt (fun _ _=>False) (fun a' w'=>a'.defers=[]/\RR (.returned (a'.get 4)) w')) a w):Calls P f #[y,z] w RR:=by
 refine calls2 hm hfn (by omega) fun a h0 h1 hs hd=>?_
 refine qc_ (qj_ (qg_ (wpList_nil ?_)))
 exact h _ (by rw [gpo (by omega)];exact h0) (by rw [gpo (by omega)];exact h1) (by rw [qa_];exact hs) (by rw [qf_];exact hd)
section
variable {te L q f m:Nat} {d val:Value} {enc bs:Bs} {args:List Operand} {ops:Array Oper} {N E:Act->World->Prop} {a:Act} {w:World}
theorem wl_callRet (hf:Ent P f) (hargs:args.map a.eval=[d,val]) (hc:ApL P te f val enc w L) (hd:jh_ w L te d bs) (hL:L<=w.heap.size) (hlim:bs.length + enc.length<=LIM) (h4:4 < a.tmps.size) (hq:q < a.tmps.size)
  (h:∀ a' w' d',a'.defers=a.defers->a'.get 4=d'->Gr L te d w d' (bs++enc) w'->E a' w') :
  wpList P ops (Exit.then (LW P [q3_ .ret] m (Rt N E)) (Rt N E)) [cl (some q) f args,mk (some 4) (.assign (tm q))] a w:=by
 refine qv_ (vs:=#[d,val]) hf (by rw [hargs]) (hc d bs hd hL hlim) fun e w' hR=>?_
 obtain ⟨d',he,hg⟩:=hR
 refine ⟨d',he,qg_ (wpList_nil (qc_ (.ret ?_)))⟩
 rw [qb_,zw_ _ _ _ hq]
 exact h _ w' d' (by simp only [qf_]) (gpe (by rw [qa_];exact h4)) hg
theorem zx_ {r:List Oper} {z:Nat} {Q:Exit->Act->World->Prop} (hf:Ent P f) (hargs:args.map a.eval=[d,val]) (hc:ApL P te f val enc w L) (hd:jh_ w L te d bs) (hL:L<=w.heap.size) (hlim:bs.length + enc.length<=LIM) (hq:q < a.tmps.size)
  (h:∀ w' d',Gr L te d w d' (bs++enc) w'->wpList P ops Q r ((a.put (some q) d').put (some z) d') w') :
  wpList P ops Q (cl (some q) f args :: mk (some z) (.assign (tm q)) :: r) a w:=by
 refine qv_ (vs:=#[d,val]) hf (by rw [hargs]) (hc d bs hd hL hlim) fun e w' hR=>?_
 obtain ⟨d',he,hg⟩:=hR
 refine ⟨d',he,qg_ ?_⟩
 rw [qb_,zw_ _ _ _ hq]
 exact h w' d' hg
end
def cAU16 (K:Kn):Code:=rd4 5 [gAppO K K.tU16 .u16 [(some 8,false),(none,false)]]
def cAU32 (K:Kn):Code:=rd4 5 [gAppO K K.tU32 .u32 [(some 24,false),(some 16,false),(some 8,false),(none,false)]]
def cAU64 (K:Kn):Code:=rd4 5 [gAppO K K.tU64 .u64 [(some 56,false),(some 48,false),(some 40,false),(some 32,false),(some 24,false),(some 16,false),(some 8,false),(none,false)]]
def gCv (A B f:Nat):List GC:=[qu_ 4 fun n=>[mk (some n) (.move (tm 0)),mk (some (n + 1)) (.move (tm 1)),mk (some (n + 2)) (.convert A B (tm (n + 1))),cl (some (n + 3)) f [tm n,tm (n + 2)],mk (some 4) (.assign (tm (n + 3)))],q3_ .ret]
def cACv (A B f:Nat):Code:=rd4 5 (gCv A B f)
def gCv1 (K:Kn) (f:Nat):List GC:=[qu_ 5 fun n=>[mk (some n) (.move (tm 0)),mk (some (n + 1)) (.move (tm 1)),mk (some (n + 2)) (.convert K.tInt K.tU32 (tm (n + 1))),mk (some (n + 3)) (.binOp .add K.tU32 (ki .u32 1) (tm (n + 2)) 0),cl (some (n + 4)) f [tm n,tm (n + 3)],mk (some 4) (.assign (tm (n + 4)))],q3_ .ret]
def cACv1 (K:Kn) (f:Nat):Code:=rd4 5 (gCv1 K f)
theorem ap_oct (wt:WT P K) {f ntmps tX:Nat} {k:IntKind} {es:List OE} (hX:P.underlying tX=some (.int k)) (hfn:FnIs P f ntmps [4] (rd4 5 [gAppO K tX k es])) (hnt:8 + oesLen es<=ntmps) (hes:es ≠ []) (hes2:es.length<=10) {x:Int}
  (hok:∀ e ∈ es,e=(none,false) \/ (uk k/\0<=x/\x < 2 ^ k.bits/\∀ s,e.1=some s->s<=k.bits)) (w:World):ApC P K.tU8 f (.int k x) (j7_ es x) w:=by
 intro L d bs hd hL hlim
 have hlen:(j7_ es x).length=es.length:=by simp [j7_]
 refine calls2s wt.mixed hfn (by omega) fun a h0 h1 hs hdf=>?_
 refine qc_ ?_
 rw [qr_]
 exact s_appO wt.oct hX wt.dU8 (by omega) h0 h1 hok hes hes2 (by omega) hd hL (by omega) fun a' w' d' hd' h4 hg=>⟨hd'.trans hdf,d',by rw [h4],hg⟩
theorem ap_cv (wt:WT P K) {f f2 ntmps A B:Nat} {kA kB:IntKind} {x:Int} {enc:Bs} {w:World} (hA:P.underlying A=some (.int kA)) (hB:P.underlying B=some (.int kB)) (hfn:FnIs P f ntmps [4] (cACv A B f2)) (hnt:9<=ntmps) (hE:Ent P f2) (hc:ApC P K.tU8 f2 (.int kB (kB.wrap x)) enc w) :
  ApC P K.tU8 f (.int kA x) enc w:=by
 intro L d bs hd hL hlim
 refine calls2s wt.mixed hfn (by omega) fun a h0 h1 hs hdf=>?_
 refine qc_ (qj_ (qd_ (qd_ ?_)))
 refine qw_ (k:=kA) (k':=kB) (m:=x) (by rw [qb_,gpe (by rw [qa_];omega),qb_,gpo (by omega)];exact h1) hA hB ?_
 refine wl_callRet hE ?_ (hc L) hd hL hlim (by simp only [qa_];omega) (by simp only [qa_];omega) fun a' w' d' hd' h4 hg=>⟨?_,d',by rw [h4],hg⟩
 ·simp only [List.map_cons,List.map_nil,qb_]
  rw [gpo (by omega),gpo (by omega),gpe (by omega),gpe (by simp only [qa_];omega),h0]
 ·rw [hd'];simp only [qf_];exact hdf
theorem ap_cv1 (wt:WT P K) {f f2 ntmps:Nat} {x:Int} {enc:Bs} {w:World} (hfn:FnIs P f ntmps [4] (cACv1 K f2)) (hnt:10<=ntmps) (hE:Ent P f2) (hc:ApC P K.tU8 f2 (.int .u32 (IntKind.u32.wrap (1 + IntKind.u32.wrap x))) enc w) :
  ApC P K.tU8 f (.int .i64 x) enc w:=by
 intro L d bs hd hL hlim
 refine calls2s wt.mixed hfn (by omega) fun a h0 h1 hs hdf=>?_
 refine qc_ (qj_ (qd_ (qd_ ?_)))
 refine qw_ (k:=.i64) (k':=.u32) (m:=x) (by rw [qb_,gpe (by rw [qa_];omega),qb_,gpo (by omega)];exact h1) wt.dInt wt.dU32 ?_
 refine zk_ (k:=.u32) (m:=1) (n:=IntKind.u32.wrap x) (v:=.int .u32 (IntKind.u32.wrap (1 + IntKind.u32.wrap x))) rfl (by rw [qb_,gpe (by simp only [qa_];omega)]) (by simp) (by simp [binOp,Op.intArith]) ?_
 refine wl_callRet hE ?_ (hc L) hd hL hlim (by simp only [qa_];omega) (by simp only [qa_];omega) fun a' w' d' hd' h4 hg=>⟨?_,d',by rw [h4],hg⟩
 ·simp only [List.map_cons,List.map_nil,qb_]
  rw [gpo (by omega),gpo (by omega),gpo (by omega),gpe (by omega),gpe (by simp only [qa_];omega),h0]
 ·rw [hd'];simp only [qf_];exact hdf
theorem be_mod (k:Nat) (x:Int) (m:Nat) (h:k<=m):be k (x % 256 ^ m)=be k x:=by
 induction k with
 | zero=>rfl
 | succ k ih=>
  simp only [be]
  rw [ih (by omega)]
  congr 2
  have hp:(256:Int) ^ m=256 ^ k * (256 * 256 ^ (m - k - 1)):=by
   rw [<- Int.pow_succ',<- Int.pow_add]
   congr 1;omega
  rw [hp]
  have hk:(0:Int) < 256 ^ k:=Int.pow_pos (by omega)
  have e1:x % (256 ^ k * (256 * 256 ^ (m - k - 1)))=x + 256 ^ k * (-(256 * (256 ^ (m - k - 1) * (x / (256 ^ k * (256 * 256 ^ (m - k - 1))))))):=by
   rw [Int.emod_def,Int.mul_neg,<- Int.sub_eq_add_neg]
   simp only [Int.mul_assoc]
  rw [e1,Int.add_mul_ediv_left _ _ (by omega)]
  generalize 256 ^ (m - k - 1) * (x / (256 ^ k * (256 * 256 ^ (m - k - 1))))=t
  generalize x / 256 ^ k=y
  congr 1
  omega
theorem oes2 (x:Int):j7_ [(some 8,false),(none,false)] x=be 2 x:=by simp [j7_,oeVal,be]
theorem oes4 (x:Int):j7_ [(some 24,false),(some 16,false),(some 8,false),(none,false)] x=be 4 x:=by simp [j7_,oeVal,be]
theorem oes8 (x:Int):j7_ [(some 56,false),(some 48,false),(some 40,false),(some 32,false),(some 24,false),(some 16,false),(some 8,false),(none,false)] x=be 8 x:=by simp [j7_,oeVal,be]
end
def blen:Nat->Nat->Nat
 | 0,_=>0
 | f + 1,x=>if x=0 then 0 else blen f (x / 2) + 1
def len8:List UInt8:=(List.range 256).map fun i=>UInt8.ofNat (blen 9 i)
def uvT (n:Nat):UInt8:=UInt8.ofNat (if n=0 then 1 else if n<=64 then (n + 6) / 7 else 0)
def uvTab:List UInt8:=(List.range 256).map uvT
def strV (l:List UInt8):Value:=.string ⟨l.toArray⟩
def cLen32 (K:Kn) (tU:Nat):Code:=(gS [ji_ 2 (.int .i64 0),
 gIf 1 2 (fun n=>[mk (some n) (.move (tm 0)),mk (some (n + 1)) (.binOp .geq tU (tm n) (ki .u32 65536) 0)])
  (gS [qu_ 2 fun n=>[mk (some n) (.move (tm 0)),mk (some (n + 1)) (.binOp .shr tU (tm n) (ki .u64 16) 0),mk (some 0) (.assign (tm (n + 1)))],ji_ 2 (.int .i64 16)]) jk_,
 gIf 1 2 (fun n=>[mk (some n) (.move (tm 0)),mk (some (n + 1)) (.binOp .geq tU (tm n) (ki .u32 256) 0)])
  (gS [qu_ 2 fun n=>[mk (some n) (.move (tm 0)),mk (some (n + 1)) (.binOp .shr tU (tm n) (ki .u64 8) 0),mk (some 0) (.assign (tm (n + 1)))],
   qu_ 2 fun n=>[mk (some n) (.move (tm 2)),mk (some (n + 1)) (.binOp .add K.tInt (tm n) (ki .i64 8) 0),mk (some 2) (.assign (tm (n + 1)))]]) jk_,
 qu_ 6 fun n=>[mk (some n) (.move (tm 2)),mk (some (n + 1)) (.move (tm 0)),mk (some (n + 2)) (.convert tU K.tU8 (tm (n + 1))),mk (some (n + 3)) (.index K.tStr (.const (strV len8)) (tm (n + 2))),mk (some (n + 4)) (.convert K.tU8 K.tInt (tm (n + 3))),
  mk (some (n + 5)) (.binOp .add K.tInt (tm n) (tm (n + 4)) 0),mk (some 2) (.assign (tm (n + 5)))],q3_ .ret] 3).1
def cUvLen (K:Kn) (f:Nat):Code:=(gS [ji_ 2 (.int .i64 0),qu_ 5 fun n=>[mk (some n) (.move (tm 0)),cl (some (n + 1)) f [tm n],mk (some (n + 2)) (.convert K.tInt K.tU8 (tm (n + 1))),mk (some (n + 3)) (.index K.tStr (.const (strV uvTab)) (tm (n + 2))),
 mk (some (n + 4)) (.convert K.tU8 K.tInt (tm (n + 3))),mk (some 2) (.assign (tm (n + 4)))],q3_ .ret] 3).1
def uvEs:List (Nat × List OE):=[(5,[(none,true),(some 7,true),(some 14,true),(some 21,true),(some 28,false)]),(4,[(none,true),(some 7,true),(some 14,true),(some 21,false)]),(3,[(none,true),(some 7,true),(some 14,false)]),(2,[(none,true),(some 7,false)]),(1,[(none,false)])]
def uvCases (K:Kn):List (Nat × List OE)->Nat->Code × Nat
 | [],n=>(.skip,n)
 | (j,es) :: r,n=>(.seq (rg [mk (some (n + 1)) (.binOp .eql K.tInt (tm 6) (ki .i64 j) 0),mk (some n) (.assign (tm (n + 1)))]) (.cond (tm n) (gAppO K K.tU32 .u32 es (n + 2)).1 (uvCases K r (gAppO K K.tU32 .u32 es (n + 2)).2).1),(uvCases K r (gAppO K K.tU32 .u32 es (n + 2)).2).2)
def cAUv (K:Kn) (f:Nat):Code:=rd4 5 [gS [qu_ 2 fun n=>[mk (some n) (.move (tm 1)),cl (some (n + 1)) f [tm n]],fun n=>(.block 0 (uvCases K uvEs n).1,(uvCases K uvEs n).2)],
 qu_ 1 fun n=>[mk (some n) (.move (tm 0)),mk (some 4) (.assign (tm n))],q3_ .ret]
def uvLen (x:Nat):Nat:=if x < 128 then 1 else if x < 16384 then 2 else if x < 2097152 then 3 else if x < 268435456 then 4 else 5
def l32a (x:Nat):Nat × Nat:=if 65536<=x then (x / 65536,16) else (x,0)
def l32b (p:Nat × Nat):Nat × Nat:=if 256<=p.1 then (p.1 / 256,p.2 + 8) else p
def l32 (x:Nat):Nat:=(l32b (l32a x)).2 + (len8.getD (l32b (l32a x)).1 0).toNat
theorem len8_ok:∀ y,y < 256->(len8.getD y 0).toNat<=8/\y < 2 ^ (len8.getD y 0).toNat/\((len8.getD y 0).toNat=0 \/ 2 ^ ((len8.getD y 0).toNat - 1)<=y):=by decide +kernel
theorem uvT_small:∀ n,n < 33->(uvTab.getD n 0).toNat=if n=0 then 1 else (n + 6) / 7:=by decide +kernel
theorem uv_l32 {x:Nat} (h:x < 4294967296):l32 x < 33/\(uvTab.getD (l32 x) 0).toNat=uvLen x:=by
 have hb:(l32b (l32a x)).1 < 256:=by
  simp only [l32b,l32a];split <;> split <;> simp <;> omega
 obtain ⟨h1,h2,h3⟩:=len8_ok _ hb
 have hx:l32 x < 33:=by
  simp only [l32]
  have:(l32b (l32a x)).2<=24:=by simp only [l32b,l32a];split <;> split <;> simp
  omega
 refine ⟨hx,?_⟩
 rw [uvT_small _ hx]
 generalize ht:(len8.getD (l32b (l32a x)).1 0).toNat=t at h1 h2 h3
 have hl:l32 x=(l32b (l32a x)).2 + t:=by simp only [l32,ht]
 rw [hl]
 clear hl hx ht
 simp only [l32b,l32a,uvLen] at *
 by_cases c1:65536<=x
 ·simp only [if_pos c1] at *
  by_cases c2:256<=x / 65536
  ·simp only [if_pos c2] at *
   rcases (show t=0 \/ t=1 \/ t=2 \/ t=3 \/ t=4 \/ t=5 \/ t=6 \/ t=7 \/ t=8 by omega) with rfl | rfl | rfl | rfl | rfl | rfl | rfl | rfl | rfl <;> simp at h2 h3 ⊢ <;> (repeat' split) <;> omega
  ·simp only [if_neg c2] at *
   rcases (show t=0 \/ t=1 \/ t=2 \/ t=3 \/ t=4 \/ t=5 \/ t=6 \/ t=7 \/ t=8 by omega) with rfl | rfl | rfl | rfl | rfl | rfl | rfl | rfl | rfl <;> simp at h2 h3 ⊢ <;> (repeat' split) <;> omega
 ·simp only [if_neg c1] at *
  by_cases c2:256<=x
  ·simp only [if_pos c2] at *
   rcases (show t=0 \/ t=1 \/ t=2 \/ t=3 \/ t=4 \/ t=5 \/ t=6 \/ t=7 \/ t=8 by omega) with rfl | rfl | rfl | rfl | rfl | rfl | rfl | rfl | rfl <;> simp at h2 h3 ⊢ <;> (repeat' split) <;> omega
  ·simp only [if_neg c2] at *
   rcases (show t=0 \/ t=1 \/ t=2 \/ t=3 \/ t=4 \/ t=5 \/ t=6 \/ t=7 \/ t=8 by omega) with rfl | rfl | rfl | rfl | rfl | rfl | rfl | rfl | rfl <;> simp at h2 h3 ⊢ <;> (repeat' split) <;> omega
theorem uvar_es {x:Nat} (h:x < 4294967296):∃ es,uvEs.lookup (uvLen x)=some es/\j7_ es x=uvar x:=by
 have d:∀ (a b:Nat),((x:Int) / (2:Int) ^ a)=((x / 2 ^ a:Nat):Int):=fun a _=>by push_cast;rfl
 simp only [uvLen]
 by_cases c1:x < 128
 ·rw [if_pos c1]
  refine ⟨_,rfl,?_⟩
  have e:((x:Int) % 256).toNat=x:=by omega
  simp [j7_,oeVal,uvar,uvarAux,c1,e]
 rw [if_neg c1]
 by_cases c2:x < 16384
 ·rw [if_pos c2]
  refine ⟨_,rfl,?_⟩
  have d1:x / 128 < 128:=by omega
  have e0:((x:Int) % 128 + 128).toNat=x % 128 + 128:=by omega
  have e1:((x:Int) / 128 % 256).toNat=x / 128:=by omega
  simp [j7_,oeVal,uvar,uvarAux,c1,d1,e0,e1]
 rw [if_neg c2]
 by_cases c3:x < 2097152
 ·rw [if_pos c3]
  refine ⟨_,rfl,?_⟩
  have d1:¬ x / 128 < 128:=by omega
  have d2:x / 128 / 128 < 128:=by omega
  have e0:((x:Int) % 128 + 128).toNat=x % 128 + 128:=by omega
  have e1:((x:Int) / 128 % 128 + 128).toNat=x / 128 % 128 + 128:=by omega
  have e2:((x:Int) / 16384 % 256).toNat=x / 128 / 128:=by omega
  simp [j7_,oeVal,uvar,uvarAux,c1,d1,d2,e0,e1,e2]
 rw [if_neg c3]
 by_cases c4:x < 268435456
 ·rw [if_pos c4]
  refine ⟨_,rfl,?_⟩
  have d1:¬ x / 128 < 128:=by omega
  have d2:¬ x / 128 / 128 < 128:=by omega
  have d3:x / 128 / 128 / 128 < 128:=by omega
  have e0:((x:Int) % 128 + 128).toNat=x % 128 + 128:=by omega
  have e1:((x:Int) / 128 % 128 + 128).toNat=x / 128 % 128 + 128:=by omega
  have e2:((x:Int) / 16384 % 128 + 128).toNat=x / 128 / 128 % 128 + 128:=by omega
  have e3:((x:Int) / 2097152 % 256).toNat=x / 128 / 128 / 128:=by omega
  simp [j7_,oeVal,uvar,uvarAux,c1,d1,d2,d3,e0,e1,e2,e3]
 rw [if_neg c4]
 refine ⟨_,rfl,?_⟩
 have d1:¬ x / 128 < 128:=by omega
 have d2:¬ x / 128 / 128 < 128:=by omega
 have d3:¬ x / 128 / 128 / 128 < 128:=by omega
 have d4:x / 128 / 128 / 128 / 128 < 128:=by omega
 have e0:((x:Int) % 128 + 128).toNat=x % 128 + 128:=by omega
 have e1:((x:Int) / 128 % 128 + 128).toNat=x / 128 % 128 + 128:=by omega
 have e2:((x:Int) / 16384 % 128 + 128).toNat=x / 128 / 128 % 128 + 128:=by omega
 have e3:((x:Int) / 2097152 % 128 + 128).toNat=x / 128 / 128 / 128 % 128 + 128:=by omega
 have e4:((x:Int) / 268435456 % 256).toNat=x / 128 / 128 / 128 / 128:=by omega
 simp [j7_,oeVal,uvar,uvarAux,c1,d1,d2,d3,d4,e0,e1,e2,e3,e4]
def cAUuid (K:Kn):Code:=sq [rg [mk (some 3) (.box K.tUuid (tm 1)),mk (some 4) (.assign (.const nilS))],
 rg [mk (some 5) (.move (tm 0)),mk (some 6) (.slice K.tUuid (tm 3) none none none),bi (some 7) .append [tm 5,tm 6] [K.tSl,K.tSl] K.tSl,mk (some 4) (.assign (tm 7))],.ret]
def gApRest (K:Kn) (tX:Nat):List GC:=[qu_ 3 fun n=>[mk (some n) (.move (tm 0)),mk (some (n + 1)) (.move (tm 1)),bi (some (n + 2)) .append [tm n,tm (n + 1)] [K.tSl,tX] K.tSl,mk (some 4) (.assign (tm (n + 2)))],q3_ .ret]
def cAStr (K:Kn) (tX tI f:Nat):Code:=rd4 5 ((qu_ 5 fun n=>[mk (some n) (.move (tm 0)),mk (some (n + 1)) (.move (tm 1)),bi (some (n + 2)) .len [tm (n + 1)] [tX] K.tInt,mk (some (n + 3)) (.convert K.tInt tI (tm (n + 2))),cl (some (n + 4)) f [tm n,tm (n + 3)],mk (some 0) (.assign (tm (n + 4)))]) :: gApRest K tX)
def cACStr (K:Kn) (tX f:Nat):Code:=rd4 5 ((qu_ 6 fun n=>[mk (some n) (.move (tm 0)),mk (some (n + 1)) (.move (tm 1)),bi (some (n + 2)) .len [tm (n + 1)] [tX] K.tInt,mk (some (n + 3)) (.convert K.tInt K.tU32 (tm (n + 2))),mk (some (n + 4)) (.binOp .add K.tU32 (ki .u32 1) (tm (n + 3)) 0),
 cl (some (n + 5)) f [tm n,tm (n + 4)],mk (some 0) (.assign (tm (n + 5)))]) :: gApRest K tX)
def gNilIf (T:Nat) (z c:Value) (f:Nat):GC:=gIf 1 2 (fun n=>[mk (some n) (.move (tm 1)),mk (some (n + 1)) (.binOp .eql T (tm n) (.const z) 0)])
 (gS [qu_ 2 fun n=>[mk (some n) (.move (tm 0)),cl (some (n + 1)) f [tm n,.const c],mk (some 4) (.assign (tm (n + 1)))],q3_ .ret]) jk_
def cANStr (K:Kn) (tP:Nat) (c:Value) (f f2:Nat):Code:=rd4 5 [gNilIf tP (.pointer none) c f,
 qu_ 5 fun n=>[mk (some n) (.move (tm 0)),mk (some (n + 1)) (.move (tm 1)),mk (some (n + 2)) (.nilCheck (tm (n + 1))),mk (some (n + 3)) (.load K.tStr (tm (n + 2))),cl (some (n + 4)) f2 [tm n,tm (n + 3)],mk (some 4) (.assign (tm (n + 4)))],q3_ .ret]
def cTLen (K:Kn) (tTags tM:Nat):Code:=(gS [ji_ 2 (.int .i64 0),qu_ 5 fun n=>[mk (some n) (.move (tm 0)),mk (some (n + 1)) (.nilCheck (tm n)),mk (some (n + 2)) (.fieldAddr tTags (tm (n + 1)) 0),mk (some (n + 3)) (.load tM (tm (n + 2))),bi (some (n + 4)) .len [tm (n + 3)] [tM] K.tInt,mk (some 2) (.assign (tm (n + 4)))],q3_ .ret] 3).1
def ValOf (p:PF) (cs:List Value) (val:Value):Prop:=if p=.uuid then val=.agg cs.toArray else cs=[val]
def pv:Option Prim->Int->Value
 | some p,x=>.int p.kind x
 | none,_=>.string ⟨#[]⟩
def pvShape:Option Prim->Value->Prop
 | some p,y=>∃ x,y=.int p.kind x
 | none,y=>∃ l:Bs,y=.string ⟨l.toArray⟩
def pvEq:Option Prim->Int->Value->Bool
 | some _,df,.int _ x=>x == df
 | none,_,.string b=>b.data.toList.isEmpty
 | _,_,_=>false
structure SmC (P:Program) (s:Sm):Prop where
 var:jp_ P s.F true s.sz
 zC:∃ z:Value,z.cells.size=s.sz/\∀ w,(zeroValue s.F).run P w=.ok z w
 dE:Ent P s.fDef
 dC:∀ w:World,Calls P s.fDef ([]:List Value).toArray w fun e w'=>Keeps (fun _=>False) w w'/\∃ z:List Value,e=.returned (.agg z.toArray)/\z.length=s.sz/\z[s.toff]?=some (.map none)/\∀ q ∈ s.ds,z[q.1]?=some (pv q.2.1 q.2.2)
 sE:Ent P s.fSame
 sC:∀ (w:World) (x z:List Value) (m:Option Nat),x.length=s.sz->z.length=s.sz->x[s.toff]?=some (.map m)->z[s.toff]?=some (.map none)->(∀ q ∈ s.ds,z[q.1]?=some (pv q.2.1 q.2.2))->(∀ q ∈ s.ds,∃ y,x[q.1]?=some y/\pvShape q.2.1 y) ->
  Calls P s.fSame ([.agg x.toArray,.agg z.toArray]:List Value).toArray w fun e w'=>Keeps (fun _=>False) w w'/\e=.returned (.bool ((s.ds.all fun q=>pvEq q.2.1 q.2.2 ((x[q.1]?).getD undef)) && m.isNone))
structure KW (P:Program) (g:GW) (av:PF->Bool) (fl nl:Bool) (te:Nat):Prop where
 mixed:P.follows .mixedOrders=true
 oct:OctT P g.tSl te
 dInt:P.underlying g.tInt=some (.int .i64)
 dU32:fl=true->P.underlying g.tU32=some (.int .u32)
 apE:∀ p,av p=true->Ent P (g.ap p)
 apC:∀ p,av p=true->∀ (w:World) (L:Nat) (cs:List Value) (val:Value) (v:V),LRp w (fun k=>L<=k) (pfTy p) cs v->ValOf p cs val->ApL P te (g.ap p) val (p.wr v) w L
 alE:za_ g.alen=true->Ent P g.alen
 alC:za_ g.alen=true->∀ (n:Nat) (w:World),ApC P te g.alen (.int .i64 n) (be 4 n) w
 clE:fl=true->za_ g.calen=true->Ent P g.calen
 clC:fl=true->za_ g.calen=true->∀ (n:Nat) (w:World),ApC P te g.calen (.int .i64 n) (uvar (w32 (n + 1))) w
 nlE:nl=true->Ent P g.nalen
 nlC:nl=true->∀ (n:Nat) (b:Bool) (w:World) (L:Nat) (d:Value) (bs:Bs),jh_ w L te d bs->L<=w.heap.size->bs.length + (if b then wNull false 4 else wCnt false n).length<=LIM ->
  Calls P g.nalen #[d,.int .i64 n,.bool b] w fun e w'=>∃ d',e=.returned d'/\Gr L te d w d' (bs++(if b then wNull false 4 else wCnt false n)) w'
 cnE:nl=true->fl=true->Ent P g.cnalen
 cnC:nl=true->fl=true->∀ (n:Nat) (b:Bool) (w:World) (L:Nat) (d:Value) (bs:Bs),jh_ w L te d bs->L<=w.heap.size->bs.length + (if b then wNull true 4 else wCnt true n).length<=LIM ->
  Calls P g.cnalen #[d,.int .i64 n,.bool b] w fun e w'=>∃ d',e=.returned d'/\Gr L te d w d' (bs++(if b then wNull true 4 else wCnt true n)) w'
 uvE:fl=true->Ent P g.uv
 uvC:fl=true->∀ (x:Nat) (w:World),x < 4294967296->ApC P te g.uv (.int .u32 x) (uvar x) w
 tlE:fl=true->Ent P g.tlen
 tlC:fl=true->∀ (w:World) (b o:Nat) (m:Value) (X:Nat->Prop) (t:List (Nat × Bs)),w.cell? ⟨b,o,none⟩=some m->TgRp w X m t->Calls P g.tlen #[pt b o] w fun e w'=>e=.returned (.int .i64 t.length)/\Keeps (fun _=>False) w w'
 teE:fl=true->Ent P g.teach
 teC:fl=true->∀ (w:World) (b o:Nat) (m:Value) (L:Nat) (t:List (Nat × Bs)) (d:Value) (bs:Bs),w.cell? ⟨b,o,none⟩=some m->(b < w.heap.size/\d.ownBlock ≠ some b)->TgRp w (fun k=>L<=k) m t->jh_ w L te d bs->L<=w.heap.size->bs.length + (qz_ t).length<=LIM ->
  Calls P g.teach #[pt b o,d] w fun e w'=>∃ d',e=.returned d'/\Gr L te d w d' (bs++qz_ t) w'
 smC:∀ s ∈ g.sm,SmC P s
 uuid:av .uuid=true->jp_ P g.tUuid true 16/\∀ w,(zeroValue g.tUuid).run P w=.ok (.agg (Array.replicate 16 (.int .u8 0))) w
structure CxW (cx:Cx) (m k0:Nat):Prop where
 s:cx.s < m/\cx.s ≠ 1
 ver:cx.ver < m/\cx.ver ≠ 1
 fx:cx.fx < m/\cx.fx ≠ 1
 one:1 < m
 le:m<=k0
structure WC (cx:Cx) (fx:Bool) (ver:Int) (te L B O:Nat) (d:Value) (bs:Bs) (a:Act) (w:World):Prop where
 dst:jh_ w L te d bs
 s1:a.get 1=d
 ss:a.get cx.s=pt B O
 sv:a.get cx.ver=.int .i16 ver
 sf:cx.hf=true->a.get cx.fx=.bool fx
 nf:cx.hf=false->fx=false
 BL:B < L
 Lw:L<=w.heap.size
section
variable {P:Program} {g:GW} {av:PF->Bool} {fl nl:Bool} {te:Nat} {cx:Cx} {fx:Bool} {ver:Int} {L B O m k0 n:Nat} {d:Value} {bs:Bs} {K N E:Act->World->Prop} {Q:Exit->Act->World->Prop} {a:Act} {w:World}
theorem WC.step {d':Value} {bs':Bs} {a':Act} {w':World} (h:WC cx fx ver te L B O d bs a w) (hc:CxW cx m k0) (hp:Pv 1 m k0 n a a') (h1:a'.get 1=d') (hg:Gr L te d w d' bs' w'):WC cx fx ver te L B O d' bs' a' w':=
 ⟨hg.dst,h1,by rw [hp.get _ hc.s.2 (.inl hc.s.1)];exact h.ss,by rw [hp.get _ hc.ver.2 (.inl hc.ver.1)];exact h.sv,fun hf=>by rw [hp.get _ hc.fx.2 (.inl hc.fx.1)];exact h.sf hf,h.nf,h.BL,Nat.le_trans h.Lw hg.keeps.size⟩
theorem WC.at {s B' O':Nat} {a':Act} (h:WC cx fx ver te L B O d bs a w) (hc:CxW cx m k0) (hp:Pv 1 m k0 n a a') (h1:a'.get 1=d) (hs:a'.get s=pt B' O') (hB:B' < L):WC { cx with s:=s } fx ver te L B' O' d bs a' w:=
 ⟨h.dst,h1,hs,by rw [hp.get _ hc.ver.2 (.inl hc.ver.1)];exact h.sv,fun hf=>by rw [hp.get _ hc.fx.2 (.inl hc.fx.1)];exact h.sf hf,h.nf,hB,h.Lw⟩
theorem CxW.at {s m':Nat} (h:CxW cx m k0) (hs:m<=s/\s < m') (hm:m<=m') (hk:m'<=k0):CxW { cx with s:=s } m' k0:=
 ⟨⟨hs.2,by have:=h.one;show s ≠ 1;omega⟩,⟨Nat.lt_of_lt_of_le h.ver.1 hm,h.ver.2⟩,⟨Nat.lt_of_lt_of_le h.fx.1 hm,h.fx.2⟩,Nat.lt_of_lt_of_le h.one hm,hk⟩
theorem CxW.mono {m':Nat} (h:CxW cx m k0) (hm:m<=m') (hk:m'<=k0):CxW cx m' k0:=
 ⟨⟨by have:=h.s;omega,h.s.2⟩,⟨by have:=h.ver;omega,h.ver.2⟩,⟨by have:=h.fx;omega,h.fx.2⟩,by have:=h.one;omega,hk⟩
theorem s_wapp {f v:Nat} {val:Value} {enc:Bs} (hE:Ent P f) (hc:ApL P te f val enc w L) (h1:a.get 1=d) (hv:a.get v=val) (hvn:v < n) (hd:jh_ w L te d bs) (hL:L<=w.heap.size) (hlim:bs.length + enc.length<=LIM) (hm:m<=k0) (hk:k0<=n) (_h1m:1 < n) (hn:n + 3<=a.tmps.size)
  (h:∀ a' w' d',Pv 1 m k0 n a a'->a'.get 1=d'->Gr L te d w d' (bs++enc) w'->K a' w'):NWP P (jm_ f v n).1 (Exit.then K Q) a w:=by
 refine qj_ (qd_ (qd_ (zx_ hE ?_ hc hd hL hlim (by simp only [qa_];omega) fun w' d' hg=>wpList_nil (h _ w' d' ?_ (gpe (by simp only [qa_];omega)) hg))))
 ·simp only [List.map_cons,List.map_nil,qb_]
  rw [gpo (by omega),gpe (by omega),gpe (by simp only [qa_];omega),gpo (by omega),h1,hv]
 ·exact ((((Pv.refl _ _ _ _ _).put _ (by omega)).put _ (by omega)).put _ (by omega)).put _ (.inl rfl)
theorem s_wappU {f v p:Nat} {cs:List Value} {enc:Bs} (hV:jp_ P g.tUuid true 16) (hE:Ent P f) (hc:ApL P te f (.agg cs.toArray) enc w L) (h1:a.get 1=d) (hv:a.get v=pt p 0) (hcs:qy_ w p 0 cs) (hl:cs.length=16) (hvn:v < n) (hd:jh_ w L te d bs) (hL:L<=w.heap.size) (hlim:bs.length + enc.length<=LIM) (hm:m<=k0) (hk:k0<=n) (h1m:1 < n) (hn:n + 3<=a.tmps.size)
  (h:∀ a' w' d',Pv 1 m k0 n a a'->a'.get 1=d'->Gr L te d w d' (bs++enc) w'->K a' w'):NWP P (gwAppU g f v n).1 (Exit.then K Q) a w:=by
 refine qj_ (qd_ (wl_loadN (b:=p) (o:=0) (cs:=cs) (by rw [qb_,gpo (by omega)];exact hv) (hV.agg w) (by rw [hl];exact hV.size w) hcs (zx_ hE ?_ hc hd hL hlim (by simp only [qa_];omega) fun w' d' hg=>wpList_nil (h _ w' d' ?_ (gpe (by simp only [qa_];omega)) hg))))
 ·simp only [List.map_cons,List.map_nil,qb_]
  rw [gpo (by omega),gpe (by omega),gpe (by simp only [qa_];omega),h1]
 ·exact ((((Pv.refl _ _ _ _ _).put _ (by omega)).put _ (by omega)).put _ (by omega)).put _ (.inl rfl)
theorem s_wfx {A C:GC} (hA:Up A) (hC:Up C) (hw:WC cx fx ver te L B O d bs a w) (hc:CxW cx m k0) (hk:k0<=n) (hn:(gwFx cx A C n).2<=a.tmps.size) (hn1:n < a.tmps.size)
  (h:∀ (a':Act) (n':Nat),Pv 1 m k0 n a a'->a'.get 1=d->(∀ s,s < n->a'.get s=a.get s)->n<=n'->((if fx then A else C) n').2<=a.tmps.size->NWP P ((if fx then A else C) n').1 Q a' w):NWP P (gwFx cx A C n).1 Q a w:=by
 have hle:=hc.le
 have h1:=hc.one
 unfold gwFx at hn ⊢
 cases hf:cx.hf with
 | false=>
  rw [hf] at hn
  simp only [Bool.false_eq_true,if_false] at hn ⊢
  have hfx:=hw.nf hf
  subst hfx
  exact h a n (Pv.refl _ _ _ _ _) hw.s1 (fun _ _=>rfl) (Nat.le_refl _) hn
 | true=>
  rw [hf] at hn
  simp only [if_true] at hn ⊢
  have hn':(C (A (n + 1)).2).2<=a.tmps.size:=hn
  have u1:=hA (n + 1)
  have u2:=hC (A (n + 1)).2
  refine s_fx (x:=n) (m:=k0) (k0:=k0) (hw.sf hf) (Nat.le_refl _) hk hn1 fun a' hp=>?_
  have hp':Pv 1 m k0 n a a':=⟨hp.size,hp.defers,fun s hs hs2=>hp.get s (by omega) (by omega)⟩
  have h1':a'.get 1=d:=by rw [hp.get 1 (by omega) (.inl (by omega))];exact hw.s1
  have hlow:∀ s,s < n->a'.get s=a.get s:=fun s hs=>hp.get s (by omega) (by omega)
  cases fx with
  | true=>exact h a' (n + 1) hp' h1' hlow (by omega) (by simp only [if_true];omega)
  | false=>exact h a' (A (n + 1)).2 hp' h1' hlow (by omega) (by simpa using hn')
theorem s_wfor {v i b1 b2 F E' len c:Nat} {base:Option Addr} {body:List GC} (hv:a.get v=.slice base len c) (hF:P.underlying F=some (.slice E')) (hi:m<=i/\i < k0) (_hvi:v < i) (h1i:1 < i) (hk:k0<=n) (hn:(gwFor g v i b1 b2 F body n).2<=a.tmps.size) (hup:n + 5<=(gS body (n + 5)).2)
  (hlen:len<=maxLen) (W:Nat->Value->World->Prop) (h0:W 0 (a.get 1) w)
  (hbody:∀ (j:Nat) (a1:Act) (w1:World),j < len->Pv 1 i k0 n a a1->a1.get i=.int .i64 j->W j (a1.get 1) w1->NWP P (gS body (n + 5)).1 (Rt (fun a2 w2=>Pv 1 (i + 1) k0 (n + 5) a1 a2/\W (j + 1) (a2.get 1) w2) E) a1 w1)
  (hend:∀ a1 w1,Pv 1 i k0 n a a1->W len (a1.get 1) w1->K a1 w1):NWP P (gwFor g v i b1 b2 F body n).1 (Rt K E) a w:=by
 have hn':(gS body (n + 5)).2 + 1<=a.tmps.size:=hn
 unfold gwFor
 generalize hz:(gS body (n + 5)).2=z at hn' hup
 refine .seq (R:=Rt (fun a' w'=>Pv 1 i k0 n a a'/\a'.get (n + 1)=.int .i64 (len:Int)/\a'.get (n + 2)=.int .i64 ((0:Nat):Int)/\a'.get 1=a.get 1/\w'=w) E) (.reg (qd_ ?_)) (fun a' w' hh=>?_) (fun e a w he hq=>by cases e <;> first | exact absurd rfl he | exact hq)
 ·rw [qb_,hv]
  refine wl_len (base:=base) (n:=len) (c:=c) (by rw [qb_,gpe (by omega)]) hF (qd_ (wpList_nil ⟨?_,?_,?_,?_,rfl⟩))
  ·exact (((Pv.refl _ _ _ _ _).put _ (by omega)).put _ (by omega)).put _ (by omega)
  ·rw [gpo (by omega),gpe (by simp only [qa_];omega)]
  ·rw [gpe (by simp only [qa_];omega)];rfl
  ·rw [gpo (by omega),gpo (by omega),gpo (by omega)]
 ·obtain ⟨hp,hgl,hgi,hg1,rfl⟩:=hh
  refine .block (.loop (fun a1 w1=>∃ j:Nat,j<=len/\Pv 1 i k0 n a a1/\a1.get (n + 1)=.int .i64 (len:Int)/\a1.get (n + 2)=.int .i64 (j:Int)/\W j (a1.get 1) w1) (fun a1 _=>((len:Int) - (match a1.get (n + 2) with | .int _ q=>q | _=>0)).toNat) ⟨0,by omega,hp,hgl,hgi,by rw [hg1];exact h0⟩ ?_)
  rintro a1 w1 ⟨j,hj,hp1,hgl1,hgj1,hW⟩
  have hs1:=hp1.size
  have htest:∀ (b:Bool),b=decide ((j:Int) < (len:Int))->wpList P [mk (some (n + 3)) (.binOp .lss g.tInt (tm (n + 2)) (tm (n + 1)) 0)].toArray
    (Rt (fun a' w'=>a'.eval (tm (n + 3))=.bool b/\a'=a1.put (some (n + 3)) (.bool b)/\w'=w1) E) [mk (some (n + 3)) (.binOp .lss g.tInt (tm (n + 2)) (tm (n + 1)) 0)] a1 w1:=by
   intro b hb
   refine q9_ (b:=b) (p:=j) (q:=len) (k:=.i64) hgj1 hgl1 (.inr (.inr (.inl ⟨rfl,hb⟩))) (wpList_nil ?_)
   exact ⟨by rw [qb_,gpe (by omega)],rfl,rfl⟩
  by_cases hlt:j < len
  ·refine .seq (R:=Rt (fun a' w'=>a'.eval (tm (n + 3))=.bool true/\a'=a1.put (some (n + 3)) (.bool true)/\w'=w1) E) (.reg (htest true (by simp [hlt]))) (fun a2 w2 hh=>?_) (fun e a w he hq=>by cases e <;> first | exact absurd rfl he | exact hq | exact hq.elim)
   obtain ⟨he2,rfl,rfl⟩:=hh
   refine .seq (R:=Rt (fun a' w'=>a'=a1.put (some (n + 3)) (.bool true)/\w'=w2) E) (.condT he2 (.skip ⟨rfl,rfl⟩)) (fun a2 w3 hh=>?_) (fun e a w he hq=>by cases e <;> first | exact absurd rfl he | exact hq | exact hq.elim)
   obtain ⟨rfl,rfl⟩:=hh
   refine .seq (R:=Rt (fun a3 w3=>Pv 1 i k0 n a a3/\a3.get (n + 1)=.int .i64 (len:Int)/\a3.get (n + 2)=.int .i64 (j:Int)/\W (j + 1) (a3.get 1) w3) E) (.block (.seq (R:=Rt (fun a3 w4=>Pv 1 i k0 n a a3/\a3.get (n + 1)=.int .i64 (len:Int)/\a3.get (n + 2)=.int .i64 (j:Int)/\a3.get i=.int .i64 (j:Int)/\W j (a3.get 1) w4) E) (.reg (qd_ ?_)) (fun a3 w4 hh=>?_) (fun e a w he hq=>by cases e <;> first | exact absurd rfl he | exact hq | exact hq.elim)))
    (fun a3 w4 hh=>?_) (fun e a w he hq=>by cases e <;> first | exact absurd rfl he | exact hq | exact hq.elim)
   ·rw [qb_,gpo (by omega),hgj1]
    refine qg_ (wpList_nil ⟨?_,?_,?_,?_,?_⟩)
    ·exact ((hp1.put _ (by omega)).put _ (by omega)).put _ (by omega)
    ·rw [gpo (by omega),gpo (by omega),gpo (by omega)];exact hgl1
    ·rw [gpo (by omega),gpo (by omega),gpo (by omega)];exact hgj1
    ·rw [gpe (by simp only [qa_];omega),qb_,gpe (by simp only [qa_];omega)]
    ·rw [gpo (by omega),gpo (by omega),gpo (by omega)];exact hW
   ·obtain ⟨hp3,hgl3,hgj3,hgi3,hW3⟩:=hh
    refine .mono (hbody j a3 w4 hlt hp3 hgi3 hW3) fun e a4 w5 hq=>?_
    cases e <;> first | exact hq.elim | skip
    ·obtain ⟨hp4,hW4⟩:=hq
     exact ⟨hp3.trans (hp4.mono (by omega) (by omega)),by rw [hp4.get _ (by omega) (.inr (by omega))];exact hgl3,by rw [hp4.get _ (by omega) (.inr (by omega))];exact hgj3,hW4⟩
    ·exact hq
   ·obtain ⟨hp3,hgl3,hgj3,hW3⟩:=hh
    have hs3:=hp3.size
    have hwr:IntKind.i64.wrap ((j:Int) + 1)=((j + 1:Nat):Int):=by simp only [maxLen] at hlen;simp [IntKind.wrap,IntKind.bits,IntKind.signed];omega
    refine .reg (zk_ (v:=.int .i64 ((j + 1:Nat):Int)) (k:=.i64) (m:=j) (n:=1) hgj3 rfl (by simp) (by simp [binOp,Op.intArith,hwr]) (qd_ (wpList_nil ?_)))
    rw [qb_,gpe (by omega)]
    have hgi':((a3.put (some z) (.int .i64 ((j + 1:Nat):Int))).put (some (n + 2)) (.int .i64 ((j + 1:Nat):Int))).get (n + 2)=.int .i64 ((j + 1:Nat):Int):=gpe (by simp only [qa_];omega)
    refine ⟨⟨j + 1,by omega,(hp3.put _ (by omega)).put _ (by omega),?_,hgi',?_⟩,?_⟩
    ·rw [gpo (by omega),gpo (by omega)];exact hgl3
    ·rw [gpo (by omega),gpo (by omega)];exact hW3
    ·rw [hgi',hgj1]
     simp only
     omega
  ·have hjL:j=len:=by omega
   subst hjL
   refine .seq (R:=Rt (fun a' w'=>a'.eval (tm (n + 3))=.bool false/\a'=a1.put (some (n + 3)) (.bool false)/\w'=w1) E) (.reg (htest false (by simp))) (fun a2 w2 hh=>?_) (fun e a w he hq=>by cases e <;> first | exact absurd rfl he | exact hq | exact hq.elim)
   obtain ⟨he2,rfl,rfl⟩:=hh
   refine .seq (R:=fun e a w=>e ≠ .normal/\Exit.inBlock b1 (Rt K E) e a w) (.condF he2 (.exit ?_)) (fun a2 w2 hh=>absurd rfl hh.1) (fun e a w he hq=>?_)
   ·simp only [Exit.inBlock,if_true]
    refine ⟨by simp,hend _ _ (hp1.put _ (by omega)) ?_⟩
    rw [gpo (by omega)];exact hW
   ·rw [zc_ he];exact hq.2
end
set_option maxRecDepth 100000
structure SN where
 tInt:Nat
 tI64:Nat
 tU8:Nat
 tU64:Nat
 tU32:Nat
 tU16:Nat
 tB:Nat
 tSl:Nat
 tF:Nat
 tFs:Nat
 tT:Nat
 tTs:Nat
 tG:Nat
 tGs:Nat
 tMs:Nat
 fPart:Nat
 fHas:Nat
 fField:Nat
 fAt:Nat
 fKnown:Nat
 fUsual:Nat
 fUv:Nat
 fUnk:Nat
 fWhole:Nat
 fNull:Nat
 fThings:Nat
 fCnt:Nat
 fVal:Nat
 fFix:Nat
 fWid:Nat
 fWrite:Nat
 fSame:Nat
 fZ2:Nat
 fZ3:Nat
 fZ4:Nat
end Go.Proofs.YtlmanancakaapaaGreatDoor.Kx

namespace Go.Proofs.YtlmanancakaapaaGreatDoor.Kx
open Go
structure TN where
 tTags:Nat
 tM:Nat
 tKs:Nat
 tU32:Nat
 tInt:Nat
 tSl:Nat
 fSort:Nat
 fLess:Nat
 fEach:Nat
 fOne:Nat
 fUv:Nat
def ldMap (T:TN) (n:Nat):List Oper:=[mk (some n) (.move (tm 0)),mk (some (n + 1)) (.nilCheck (tm n)),mk (some (n + 2)) (.fieldAddr T.tTags (tm (n + 1)) 0),mk (some (n + 3)) (.load T.tM (tm (n + 2)))]
def eachBody (T:TN):Code:=sq [rg [mk (some 27) (.entry (tm 24)),mk (some 28) (.extract (tm 27) 0),mk (some 5) (.assign (tm 28))],
 rg [mk (some 29) (.load T.tKs (tm 4)),mk (some 30) (.move (tm 5)),mk (some 31) (.buildSlice T.tKs 1 #[(0,tm 30)]),bi (some 32) .append [tm 29,tm 31] [T.tKs,T.tKs] T.tKs,mk none (.store T.tKs (tm 4) (tm 32))]]
def eachLoop (T:TN):Code:=.loop (.seq (rg [mk (some 25) (.next (tm 24) false),mk (some 26) (.extract (tm 25) 0)]) (.seq (.cond (tm 26) .skip (.exit 0)) (.block 1 (eachBody T))))
def eachCall (T:TN):Code:=sq [rg [mk (some 41) (.indexAddr T.tKs (tm 37) (tm 39)),mk (some 42) (.load T.tU32 (tm 41)),mk (some 7) (.assign (tm 42))],
 rg ([mk (some 43) (.move (tm 1)),mk (some 44) (.move (tm 7))]++ldMap T 45++[mk (some 49) (.move (tm 7)),mk (some 50) (.lookup T.tM (tm 48) (tm 49) false),mk (some 51) (.call ⟨.value (tm 43),#[tm 44,tm 50],#[]⟩)])]
def eachLoop2 (T:TN):Code:=.loop (.seq (rg [mk (some 40) (.binOp .lss T.tInt (tm 39) (tm 38) 0)]) (.seq (.cond (tm 40) .skip (.exit 2)) (.seq (.block 3 (eachCall T)) (rg [mk (some 52) (.binOp .add T.tInt (tm 39) (ki .i64 1) 0),mk (some 39) (.move (tm 52))]))))
def cEach (T:TN):Code:=
 .seq (.seq (rg (ldMap T 8++[bi (some 12) .len [tm 11] [T.tM] T.tInt,mk (some 13) (.binOp .eql T.tInt (tm 12) (ki .i64 0) 0)])) (.cond (tm 13) .ret .skip))
 (.seq (rg (ldMap T 14++[bi (some 18) .len [tm 17] [T.tM] T.tInt,mk (some 19) (.makeSlice T.tKs (ki .i64 0) (tm 18)),mk (some 4) (.alloc T.tKs),mk none (.store T.tKs (tm 4) (tm 19))]))
 (.seq (.seq (rg (ldMap T 20++[mk (some 24) (.range T.tM (tm 23))])) (.block 0 (eachLoop T)))
 (.seq (rg [mk (some 33) (.load T.tKs (tm 4)),mk (some 34) (.makeInterface T.tKs (tm 33)),mk (some 35) (.makeFunc (.func T.fLess) #[] #[tm 4]),cl (some 36) T.fSort [tm 34,tm 35]])
 (.seq (rg [mk (some 37) (.load T.tKs (tm 4)),bi (some 38) .len [tm 37] [T.tKs] T.tInt,mk (some 39) (.move (ki .i64 0))]) (.block 2 (eachLoop2 T))))))
def cTEach (T:TN):Code:=sq [rg [mk (some 3) (.box T.tSl (tm 1)),mk (some 4) (.assign (.const nilS))],rg [mk (some 5) (.move (tm 0)),mk (some 6) (.makeFunc (.func T.fOne) #[] #[tm 3]),cl (some 7) T.fEach [tm 5,tm 6]],
 rg [mk (some 8) (.load T.tSl (tm 3)),mk (some 4) (.assign (tm 8))],.ret]
def cTOne (T:TN):Code:=sq [rg [mk (some 5) (.load T.tSl (tm 2)),mk (some 6) (.move (tm 0)),cl (some 7) T.fUv [tm 5,tm 6],mk none (.store T.tSl (tm 2) (tm 7))],
 rg [mk (some 8) (.load T.tSl (tm 2)),mk (some 9) (.move (tm 1)),bi (some 10) .len [tm 9] [T.tSl] T.tInt,mk (some 11) (.convert T.tInt T.tU32 (tm 10)),cl (some 12) T.fUv [tm 8,tm 11],mk none (.store T.tSl (tm 2) (tm 12))],
 rg [mk (some 13) (.load T.tSl (tm 2)),mk (some 14) (.move (tm 1)),bi (some 15) .append [tm 13,tm 14] [T.tSl,T.tSl] T.tSl,mk none (.store T.tSl (tm 2) (tm 15))]]
end Go.Proofs.YtlmanancakaapaaGreatDoor.Kx
