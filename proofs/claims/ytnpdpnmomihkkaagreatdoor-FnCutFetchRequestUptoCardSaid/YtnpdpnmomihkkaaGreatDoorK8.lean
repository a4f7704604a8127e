/- messages, part 8 -/
import Derived.Test.YtnpdpnmomihkkaaGreatDoorK6
import Derived.Deep.AppendSrc
import Derived.Laws.AppendOwn

namespace Go.Proofs.YtnpdpnmomihkkaaGreatDoor.Kx
open Go
def fq:Nat:=70400000000000
def cP (b:UInt8):Value:=.int .u8 (b.toNat:Int)
def bS (w:World)(L te:Nat)(d:Value)(bs:Bs):Prop:=
 (d=.slice none 0 0/\bs=[]) \/
 ∃ (g c:Nat) (cur:Array Value),d=.slice (some ⟨g,0,none⟩) bs.length c/\L<=g/\w.heap[g]?=some (.cells cur te (0,0))/\bs.length<=c/\c<=maxLen/\cur.size=c/\∀ (i:Nat) (x:UInt8),bs[i]?=some x->cur[i]?=some (cP x)
structure Gr (L te:Nat)(d:Value)(w:World)(d':Value)(bs':Bs)(w':World):Prop where
 dst:bS w' L te d' bs'
 keeps:br (λk=>d.ownBlock=some k) w w'
 own:∀ k,d'.ownBlock=some k->d.ownBlock=some k \/ w.heap.size<=k
section
variable {L te:Nat} {d d1 d':Value} {w w1 w':World} {bs bs1 bs':Bs}
theorem bS.own (h:bS w L te d bs){k:Nat}(hk:d.ownBlock=some k):L<=k/\k<w.heap.size:=by
 rcases h with⟨rfl,_⟩|⟨g,c,cur,rfl,hL,hg,_⟩
 ·cases hk
 ·obtain rfl:g=k:=au hk
  exact⟨hL,(aj.1 hg).1⟩
theorem bS.away {b:Nat}(h:bS w L te d bs)(hb:b<L)(hL:L<=w.heap.size):b<w.heap.size/\d.ownBlock≠some b:=⟨by omega,λhh=>by have:=(h.own hh).1;omega⟩
theorem bS.keep {X:Nat->Prop}(h:bS w L te d bs)(hk:br X w w')(hx:∀ k,d.ownBlock=some k->¬ X k):bS w' L te d bs:=by
 rcases h with h|⟨g,c,cur,rfl,hL,hg,h⟩
 ·exact .inl h
 ·exact .inr ⟨g,c,cur,rfl,hL,by rw[hk.block g (aj.1 hg).1 (hx g rfl)];exact hg,h⟩
theorem bS.nil (w:World)(L te:Nat):bS w L te (.slice none 0 0) []:=.inl ⟨rfl,rfl⟩
theorem Gr.refl (h:bS w L te d bs):Gr L te d w d bs w:=⟨h,br.refl _ _,λ_ h=>.inl h⟩
theorem Gr.trans (h:Gr L te d w d1 bs1 w1)(k:Gr L te d1 w1 d' bs' w'):Gr L te d w d' bs' w':=
 ⟨k.dst,⟨k.keeps.os.trans h.keeps.os,k.keeps.tape.trans h.keeps.tape,k.keeps.output.trans h.keeps.output,am h.keeps.size k.keeps.size,λi hi hx=>by
   have hs:=h.keeps.size
   rw[k.keeps.block i aa (λhh=>by rcases h.own i hh with h1|h1;exact hx h1;omega),h.keeps.block i hi hx]⟩,
  λi hi=>by
   have hs:=h.keeps.size
   rcases k.own i hi with h1|h1
   ·exact h.own i h1
   ·exact .inr aa⟩
theorem Gr.far (hd:bS w L te d bs)(h:Gr L te d w d' bs' w'):br (λk=>L<=k) w w':=h.keeps.mono λ_ _ hk=>(hd.own hk).1
theorem Gr.pre {X:Nat->Prop}(hk:br X w w1)(hx:∀ k,k<w.heap.size->¬ X k)(h:Gr L te d w1 d' bs' w'):Gr L te d w d' bs' w':=
 ⟨h.dst,⟨h.keeps.os.trans hk.os,h.keeps.tape.trans hk.tape,h.keeps.output.trans hk.output,am hk.size h.keeps.size,λi hi hi2=>by
   have hs:=hk.size
   rw[h.keeps.block i aa hi2,hk.block i hi (hx i hi)]⟩,λi hi=>by
  have hs:=hk.size
  rcases h.own i hi with h1|h1
  ·exact .inl h1
  ·exact .inr aa⟩
theorem Gr.post {X:Nat->Prop}(h:Gr L te d w d' bs' w1)(hk:br X w1 w')(hx:∀ k,X k->w.heap.size<=k/\d'.ownBlock≠some k):Gr L te d w d' bs' w':=
 ⟨h.dst.keep hk (λk hk hX=>(hx k hX).2 hk),⟨hk.os.trans h.keeps.os,hk.tape.trans h.keeps.tape,hk.output.trans h.keeps.output,am h.keeps.size hk.size,λi hi hi2=>by
   have hs:=h.keeps.size
   rw[hk.block i aa (λhX=>by have:=(hx i hX).1;omega),h.keeps.block i hi hi2]⟩,h.own⟩
theorem Gr.lower {L':Nat}(hL:L'<=L)(h:Gr L te d w d' bs' w'):Gr L' te d w d' bs' w':=
 ⟨by
  rcases h.dst with h|⟨g,c,cur,h1,h2,h3⟩
  ·exact .inl h
  ·exact .inr ⟨g,c,cur,h1,by omega,h3⟩,h.keeps,h.own⟩
end
structure OctT (P:Program)(tSl tU8:Nat):Prop where
 und:P.underlying tSl=some (.slice tU8)
 info:∃ i z,P.info? tU8=some i/\i.zero=some z/\i.size=1/\i.bytes=1/\z.cells.size=1
section
variable {P:Program} {tSl te:Nat}
theorem i0 (ot:OctT P tSl te){tx ty:TypeId}{L:Nat}{d x:Value}{w:World}{bs l:Bs}(hd:bS w L te d bs)(hs:Src P 1 tx x l.length (l.map cP) w)(hL:L<=w.heap.size)(hlim:bs.length+l.length<=fq) :
  ∃ d' w',(Builtin.append_ #[tSl,tx] ty #[d,x]).run P w=.ok d' w'/\Gr L te d w d' (bs++l) w':=by
 obtain⟨i,z,hi,hz,Jc,O1,L4⟩:=ot.info
 have ht:=ot.und
 simp only[fq]at hlim
 have Mh:Src P i.size tx x l.length (l.map cP) w:=by rw[Jc];exact hs
 have grown:∀ (base:Option Addr) (old:Nat),old<bs.length+l.length->d.ownBlock=d.ownBlock->(Builtin.firstCells i.size bs.length (.slice base bs.length old)).run P w.drew=.ok (bs.map cP).toArray w.drew ->
   ∃ d' w',(Builtin.append_ #[tSl,tx] ty #[.slice base bs.length old,x]).run P w=.ok d' w'/\Gr L te d w d' (bs++l) w':=by
  intro base old ho _ Kz
  have hr:=run_append_grow_src (P:=P) w tSl tx ty te i z ht hi hz base bs.length old (bs.map cP) Kz x l.length (l.map cP) Mh ho aa (growslice_fits ho (by rw[O1];omega))
  refine⟨_,_,hr,?_⟩
  have JN:=grownCap_ge w (bs.length+l.length) old te
  have LB:grownCap w (bs.length+l.length) old te<=maxLen:=grownCap_le_maxLen w _ old te (by simp only[maxLen];omega)
  refine⟨.inr ⟨w.heap.size,_,_,by rw[ad],hL,Go.heap_alloc_new w.drew _,by rw[ad];exact JN,LB,?_,?_⟩,⟨rfl,rfl,rfl,by simp,λk hk _=>cR (w:=w.drew) hk⟩,λk hk=>?_⟩
  ·simp only[Array.size_append,List.size_toArray,size_zeroCells,L4,ad,aJ]
   omega
  ·intro j u hj
   have K6:j<(bs++l).length:=(ah.1 hj).1
   rw[Array.getElem?_append_left (by simp only[List.size_toArray,ad,aJ];rw[ad]at K6;exact K6)]
   rw[aQ,<- List.map_append,aD,hj]
   rfl
  ·right
   simp only[Value.ownBlock,aM]at hk
   omega
 rcases hd with⟨rfl,rfl⟩|⟨g,c,cur,rfl,Ub,hg,T0,LB,Js,JD⟩
 ·by_cases h0:l.length=0
  ·have hl:l=[]:=bf h0
   subst hl
   refine⟨.slice none 0 0,w,?_,Gr.refl (bS.nil _ _ _)⟩
   have h1:=hs.len
   have h2:=hs.cells
   simp only[List.length_nil,List.map_nil]at h1 h2
   rcases hs.kind with⟨e',hk⟩|hk<;>simp[Builtin.append_,run_underlying ht,run_underlying hk,sizeOf,typeInfo,hi,Jc,h1,h2]
  ·refine grown none 0 (by simp only[List.length_nil];omega) rfl ?_
   simp[Builtin.firstCells]
 ·by_cases JV:bs.length+l.length<=c
  ·have JL:=run_storeCells_at P g bs.length te (l.map cP) 0 cur w hg (by rw[aJ];omega) hs.one
   simp only[Nat.add_zero]at JL
   have hr:(Builtin.append_ #[tSl,tx] ty #[.slice (some ⟨g,0,none⟩) bs.length c,x]).run P w=.ok (.slice (some ⟨g,0,none⟩) (bs.length+l.length) c) (w.setRow g (bV cur bs.length (l.map cP))):=by
    rcases hs.kind with⟨e',hk⟩|hk<;>simp[Builtin.append_,run_underlying ht,run_underlying hk,sizeOf,typeInfo,hi,Jc,hs.len,JV,hs.cells,Addr.add_lit,JL,bV]
   refine⟨_,_,hr,.inr ⟨g,c,_,by rw[ad],Ub,setRow_heap _ _ _ _ _ _ hg,by rw[ad];exact JV,LB,?_,?_⟩,br.setRow _ _ _ _ rfl,λk hk=>.inl hk⟩
   ·rw[fF (by rw[aJ];omega)];exact Js
   ·intro j u hj
    by_cases PB:j<bs.length
    ·rw[dL (by rw[aJ];omega) j (.inl PB)]
     rw[aR PB]at hj
     exact JD j u hj
    ·rw[aO aa]at hj
     have:=dn (cur:=cur) (o:=bs.length) (vs:=l.map cP) (by rw[aJ];omega) (j-bs.length) (by have:=(ah.1 hj).1;rw[aJ];exact this)
     rw[show bs.length+(j-bs.length)=j by omega]at this
     rw[this,aD,hj]
     rfl
  ·refine grown (some ⟨g,0,none⟩) c aa rfl ?_
   have:=run_loadCells_list (P:=P) w.drew ⟨g,0,none⟩ (bs.map cP) (λj u hj=>by
    rw[aD,aK]at hj
    obtain⟨b,hb,rfl⟩:=hj
    rw[Addr.add_lit]
    have Jn:w.drew.heap[g]?=some (.cells cur te (0,0)):=hg
    simp[World.cell?,Jn,JD j b hb])
   simp only[aJ]at this
   simp[Builtin.firstCells,Jc,this]
theorem iu (ot:OctT P tSl te){tx ty:TypeId}{ops:Array Oper}{Q:Exit->Act->World->Prop}{r:List Oper}{a:Act}{dd:Option Nat}{p q:Operand}{L:Nat}{d x:Value}{w:World}{bs l:Bs}(hp:a.eval p=d)(hq:a.eval q=x)
  (hd:bS w L te d bs) (hs:Src P 1 tx x l.length (l.map cP) w) (hL:L<=w.heap.size) (hlim:bs.length+l.length<=fq)
  (h:∀ d' w',Gr L te d w d' (bs++l) w'->wpList P ops Q r (a.put dd d') w'):wpList P ops Q (bi dd .append [p,q] [tSl,tx] ty::r) a w:=by
 obtain⟨d',w',hr,hg⟩:=i0 (ty:=ty) ot hd hs hL hlim
 refine wpList_plain rfl λ_ hK=>?_
 unfold Oper.wp
 have:(execOp a.eval (bi dd .append [p,q] [tSl,tx] ty)).run P w=.ok (.value d') w':=by
  simp[execOp,bi,resolve,invoke,hp,hq,builtin,hr]
 rw[this]
 exact hK _ _ (h d' w' hg)
theorem lQ (ot:OctT P tSl te){w:World}{g o c:Nat}{l:Bs}(h:io w g o l):Src P 1 tSl (.slice (some ⟨g,o,none⟩) l.length c) l.length (l.map cP) w:=
 Src.ofSlice w ot.und ⟨g,o,none⟩ l.length c _ ab (λj u hj=>by
  rw[aD,aK]at hj
  obtain⟨b,hb,rfl⟩:=hj
  rw[Addr.add_lit]
  exact h j b hb) no
theorem x8 (ot:OctT P tSl te)(w:World)(c:Nat):Src P 1 tSl (.slice none 0 c) ([]:Bs).length (([]:Bs).map cP) w:=Src.ofNil w ot.und c
theorem CT {tStr:Nat}(hk:P.underlying tStr=some .string)(w:World)(l:Bs):Src P 1 tStr (.string ⟨l.toArray⟩) l.length (l.map cP) w:=by
 have:=Src.ofString (P:=P) w hk ⟨l.toArray⟩
 exact this
end
abbrev OE:=Option Nat × Bool
def gy (e:OE):Nat:=2+(if e.1.isSome then 1 else 0)+(if e.2 then 2 else 0)
def BC (K:Kn)(tX:Nat)(k:IntKind)(e:OE)(n:Nat):List Oper:=
 mk (some n) (.move (tm 1)) ::
 ((match e.1 with|some s=>[mk (some (n+1)) (.binOp .shr tX (tm n) (ki .u64 s) 0)]|none=>[]) ++
 let q:=n+(if e.1.isSome then 1 else 0)
 (if e.2 then[mk (some (q+1)) (.binOp .and tX (tm q) (ki k 127) 0),mk (some (q+2)) (.binOp .or tX (tm (q+1)) (ki k 128) 0),mk (some (q+3)) (.convert tX K.tU8 (tm (q+2)))]
  else[mk (some (q+1)) (.convert tX K.tU8 (tm q))]))
def s9 (K:Kn)(tX:Nat)(k:IntKind):List OE->Nat->List Oper
 | [],_=>[]
 | e::r,n=>BC K tX k e n++s9 K tX k r (n+gy e)
def gK:List OE->Nat
 | []=>0
 | e::r=>gy e+gK r
def j9:List OE->Nat->List Nat
 | [],_=>[]
 | e::r,n=>(n+gy e-1)::j9 r (n+gy e)
def kp (e:OE)(x:Int):UInt8:=UInt8.ofNat (if e.2 then(x/2^(e.1.getD 0)%128+128).toNat else(x/2^(e.1.getD 0)%256).toNat)
def d9 (es:List OE)(x:Int):Bs:=es.map λe=>kp e x
def Er:Nat->List Nat->List (Nat × Operand)
 | _,[]=>[]
 | i,s::r=>(i,tm s)::Er (i+1) r
def je (K:Kn)(tX:Nat)(k:IntKind)(es:List OE):GC:=gS [bL (3+gK es) λn=>mk (some n) (.move (tm 0))::(s9 K tX k es (n+1) ++
  [mk (some (n+1+gK es)) (.buildSlice K.tSl es.length (Er 0 (j9 es (n+1))).toArray),bi (some (n+2+gK es)) .append [tm n,tm (n+1+gK es)] [K.tSl,K.tSl] K.tSl,mk (some 4) (.assign (tm (n+2+gK es)))]),cp .ret]
section
variable {P:Program} {g:G} {K:Kn}
theorem xJ {k:IntKind}{A:Nat}{x:Int}{s:Nat}(hs:s<=k.bits)(w:World):(binOp .shr A (.int k x) (.int .u64 (s:Int))).run P w=.ok (.int k (x/2^s)) w:=by
 have h1:¬ ((s:Int)<0):=by omega
 have h2:min s k.bits=s:=by omega
 have h3:(0:Int)<=2^s:=by
  have:=Int.pow_pos (n:=2) (m:=s) aa
  omega
 simp only[binOp,Op.shift,h1,ak,Int.toNat_natCast,h2,Sem.run_pure,Int.fdiv_eq_ediv_of_nonneg _ h3]
theorem pK {k:IntKind}(hk:uk k){A m:Nat}(hm:m<2^k.bits)(w:World):(binOp .and A (.int k (m:Int)) (.int k 127)).run P w=.ok (.int k ((m%128:Nat):Int)) w:=by
 have e1:BitVec.ofInt k.bits (m:Int)=BitVec.ofNat k.bits m:=by simp
 have e2:BitVec.ofInt k.bits 127=BitVec.ofNat k.bits 127:=BitVec.ofInt_natCast (n:=127) ..
 have Yo:127<2^k.bits:=by rcases hk with rfl|rfl|rfl<;>decide
 have e4:(BitVec.ofNat k.bits m &&& BitVec.ofNat k.bits 127).toNat=m%128:=by
  rw[BitVec.toNat_and,BitVec.toNat_ofNat,BitVec.toNat_ofNat,aW hm,aW Yo]
  exact Nat.and_two_pow_sub_one_eq_mod m 7
 have K5:(k≠k)=False:=by simp
 have h3:m%128<2^k.bits:=by omega
 simp only[binOp,K5,ak,Op.intBits,e1,e2,e4,iT hk h3,Sem.run_pure]
theorem yM {k:IntKind}(hk:uk k){A m:Nat}(hm:m<128)(w:World):(binOp .or A (.int k (m:Int)) (.int k 128)).run P w=.ok (.int k ((m+128:Nat):Int)) w:=by
 have e1:BitVec.ofInt k.bits (m:Int)=BitVec.ofNat k.bits m:=by simp
 have e2:BitVec.ofInt k.bits 128=BitVec.ofNat k.bits 128:=BitVec.ofInt_natCast (n:=128) ..
 have h256:256<=2^k.bits:=by rcases hk with rfl|rfl|rfl<;>decide
 have e3:m ||| 128=m+128:=by
  have:=Nat.two_pow_add_eq_or_of_lt (i:=7) (b:=m) aa 1
  rw[Nat.or_comm]
  simp at this
  omega
 have e4:(BitVec.ofNat k.bits m ||| BitVec.ofNat k.bits 128).toNat=m+128:=by
  rw[BitVec.toNat_or,BitVec.toNat_ofNat,BitVec.toNat_ofNat,aW aa,aW aa,e3]
 have K5:(k≠k)=False:=by simp
 simp only[binOp,K5,ak,Op.intBits,e1,e2,e4,iT hk (show m+128<2^k.bits by omega),Sem.run_pure]
theorem zS (y:Int):IntKind.u8.wrap y=((UInt8.ofNat (y%256).toNat).toNat:Int):=by
 simp[IntKind.wrap,IntKind.bits,IntKind.signed]
 omega
theorem zZ {tX:Nat}{k:IntKind}(hX:P.underlying tX=some (.int k))(h8:P.underlying K.tU8=some (.int .u8)){ops:Array Oper}{Q:Exit->Act->World->Prop}{r:List Oper}{a:Act}{w:World}{y:Int}{m:Bool}{q:Nat}
  (hq:a.get q=.int k y) (hm:m=true->uk k/\0<=y/\y<2^k.bits) (hs:q+(if m then 3 else 1)<a.tmps.size)
  (h:∀ a',Pv (q+1) 0 0 (q+1) a a'->a'.get (q+(if m then 3 else 1))=cP (UInt8.ofNat (if m then(y%128+128).toNat else(y%256).toNat))->wpList P ops Q r a' w) :
  wpList P ops Q ((if m then[mk (some (q+1)) (.binOp .and tX (tm q) (ki k 127) 0),mk (some (q+2)) (.binOp .or tX (tm (q+1)) (ki k 128) 0),mk (some (q+3)) (.convert tX K.tU8 (tm (q+2)))] else[mk (some (q+1)) (.convert tX K.tU8 (tm q))])++r) a w:=by
 cases m with
 | false=>
  simp only[ag,ak]at hs h ⊢
  refine ci (k:=k) (k':=.u8) (m:=y) hq hX h8 (h _ ((Pv.refl _ _ _ _ _).put _ (.inl rfl)) ?_)
  rw[fh _ _ _ hs,zS]
  rfl
 | true=>
  simp only[aw]at hs h ⊢
  obtain⟨hk,h0,hb⟩:=hm rfl
  obtain⟨y',rfl⟩:=Int.eq_ofNat_of_zero_le h0
  have OF:y'<2^k.bits:=by exact_mod_cast hb
  refine ee (k:=k) (m:=y') (n:=127) hq rfl ab (pK hk OF w) ?_
  refine ee (k:=k) (m:=((y'%128:Nat):Int)) (n:=128) (by rw[bp,bA aa]) rfl ab (yM hk aa w) ?_
  refine ci (k:=k) (k':=.u8) (m:=((y'%128+128:Nat):Int)) (by rw[bp,bA (by simp only[bq];omega)]) hX h8 (h _ ((((Pv.refl _ _ _ _ _).put _ (.inl rfl)).put _ (.inr aa)).put _ (.inr aa)) ?_)
  rw[bA (by simp only[bq];omega),zS]
  have e1:(((y'%128+128:Nat):Int)%256).toNat=y'%128+128:=by omega
  have e2:((y':Int)%128+128).toNat=y'%128+128:=by omega
  rw[e1,e2]
  rfl
theorem FZ {tX:Nat}{k:IntKind}(hX:P.underlying tX=some (.int k))(h8:P.underlying K.tU8=some (.int .u8)){ops:Array Oper}{Q:Exit->Act->World->Prop}{r:List Oper}{a:Act}{w:World}{x:Int}{e:OE}{n:Nat}(Ym:1<n)
  (h1:a.get 1=.int k x) (Jf:e=(none,false) \/ (uk k/\0<=x/\x<2^k.bits/\∀ s,e.1=some s->s<=k.bits)) (hs:n+gy e<=a.tmps.size)
  (h:∀ a',Pv n 0 0 n a a'->a'.get (n+gy e-1)=cP (kp e x)->wpList P ops Q r a' w):wpList P ops Q (BC K tX k e n++r) a w:=by
 obtain⟨s,m⟩:=e
 have Zl:Pv n 0 0 n a (a.put (some n) (.int k x)):=(Pv.refl _ _ _ _ _).put _ (.inl rfl)
 refine bv ?_
 rw[bp,h1]
 cases s with
 | none=>
  show wpList P ops Q ((if m then _ else _)++r) _ w
  refine zZ (q:=n) (y:=x) hX h8 (bA (by simp only[gy]at hs;omega)) (λhm=>?_) (by simp only[bq];simp only[gy]at hs;cases m<;>simp at hs ⊢<;>omega) λa' hp hg=>h a' (Zl.trans ⟨hp.size,hp.defers,λs IX Jr=>hp.get s aa aa⟩) ?_
  ·subst hm
   rcases Jf with Jf|⟨h2,h3,h4,_⟩
   ·cases Jf
   ·exact⟨h2,h3,h4⟩
  ·rw[show n+gy (none,m)-1=n+(if m then 3 else 1) by cases m<;>simp[gy]]
   rw[hg]
   simp[kp]
 | some s=>
  rcases Jf with Jf|⟨h2,h3,h4,h5⟩
  ·cases Jf
  have Wc:=h5 s rfl
  show wpList P ops Q (mk (some (n+1)) (.binOp .shr tX (tm n) (ki .u64 s) 0)::((if m then _ else _)++r)) _ w
  have Jc:n+1<a.tmps.size:=by simp only[gy]at hs;cases m<;>simp at hs<;>omega
  have Jl:=xJ (P:=P) (k:=k) (A:=tX) (x:=x) Wc w
  refine bP (v:=.int k (x/2^s)) (w':=w) ?_ ?_
  ·have e1:(a.put (some n) (.int k x)).eval (tm n)=.int k x:=by rw[bp,bA aa]
   have e2:(a.put (some n) (.int k x)).eval (ki .u64 s)=.int .u64 s:=rfl
   simp[execOp,mk,e1,e2,eqGuard,Jl]
  ·have JK:(0:Int)<2^s:=Int.pow_pos aa
   have hy0:0<=x/2^s:=Int.ediv_nonneg h3 aa
   have hyb:x/2^s<2^k.bits:=Int.lt_of_le_of_lt (Int.ediv_le_self _ h3) h4
   refine zZ (q:=n+1) (y:=x/2^s) hX h8 (bA (by simp only[bq];omega)) (λhm=>⟨h2,hy0,hyb⟩) (by simp only[bq];simp only[gy]at hs;cases m<;>simp at hs ⊢<;>omega) λa' hp hg=>
    h a' ((Zl.put _ (.inr aa)).trans ⟨hp.size,hp.defers,λs IX Jr=>hp.get s aa aa⟩) ?_
   rw[show n+gy (some s,m)-1=n+1+(if m then 3 else 1) by cases m<;>simp[gy]]
   rw[hg]
   simp[kp]
theorem yY (e:OE):2<=gy e:=by simp only[gy];omega
theorem zY {tX:Nat}{k:IntKind}(hX:P.underlying tX=some (.int k))(h8:P.underlying K.tU8=some (.int .u8)){ops:Array Oper}{Q:Exit->Act->World->Prop}{r:List Oper}{w:World}{x:Int} :
  ∀ (es:List OE) (n:Nat) (a:Act),1<n->a.get 1=.int k x->(∀ e∈es,e=(none,false) \/ (uk k/\0<=x/\x<2^k.bits/\∀ s,e.1=some s->s<=k.bits))->n+gK es<=a.tmps.size ->
  (∀ a',Pv n 0 0 n a a'->(j9 es n).map a'.get=(d9 es x).map cP->(∀ s∈j9 es n,n<=s)->wpList P ops Q r a' w)->wpList P ops Q (s9 K tX k es n++r) a w
 | [],n,a,_,_,_,_,h=>h a (Pv.refl _ _ _ _ _) rfl (by simp[j9])
 | e::es,n,a,Ym,h1,Jf,hs,h=>by
  have hl:=yY e
  simp only[gK]at hs
  show wpList P ops Q ((BC K tX k e n++s9 K tX k es (n+gy e))++r) a w
  rw[ao]
  refine FZ hX h8 Ym h1 (Jf e (aB ..)) aa λa1 IP IY=>?_
  have LK:=IP.size
  refine zY hX h8 es (n+gy e) a1 aa (by rw[IP.get 1 aa aa];exact h1) (λe' he=>Jf e' (aA _ he)) aa λa2 IR Ja JN=>?_
  refine h a2 (IP.trans ⟨IR.size,IR.defers,λs IX Jr=>IR.get s aa aa⟩) ?_ ?_
  ·simp only[j9,d9,List.map_cons]
   rw[IR.get (n+gy e-1) aa aa,IY,Ja]
   rfl
  ·intro s hs
   simp only[j9,aI]at hs
   rcases hs with rfl|hs
   ·omega
   ·have:=JN s hs;omega
def xO:Nat->List Value->List (Nat × Value)
 | _,[]=>[]
 | i,v::r=>(i,v)::xO (i+1) r
theorem n9:∀ (vs:List Value) (i:Nat) (cur:Array Value),(∀ v∈vs,v.cells=#[v])->i+vs.length<=cur.size->Instr.fill (λi=>some (i,1)) cur (xO i vs)=some (bV cur i vs)
 | [],i,cur,_,h=>by simp[xO,Instr.fill,bV]
 | v::vs,i,cur,h1,h=>by
  have hv:=h1 v (aB ..)
  simp only[List.length_cons]at h
  have ih:=n9 vs (i+1) (cur.setIfInBounds i v) (λu hu=>h1 u (aA _ hu)) (by simp;omega)
  have hc:¬ (i+1 > cur.size):=by omega
  simp only[xO,Instr.fill,hv]
  simp[hc]
  rw[ih]
  congr 1
  apply Array.ext'
  apply List.ext_getElem?
  intro j
  have e1:=@fF (cur.setIfInBounds i v) (i+1) vs (by simp;omega)
  have e2:=@fF cur i (v::vs) (by simp only[List.length_cons];omega)
  simp only[Array.getElem?_toList]
  by_cases hj:j<i
  ·rw[dL (by simp;omega) j (.inl aa),dL (by simp only[List.length_cons];omega) j (.inl hj),ay,al aa]
  ·by_cases Qm:j=i
   ·subst Qm
    have:=dn (cur:=cur) (o:=j) (vs:=v::vs) (by simp only[List.length_cons];omega) 0 ab
    rw[Nat.add_zero]at this
    rw[this,dL (by simp;omega) j (.inl aa),ay,ax rfl,ax aa]
    rfl
   ·by_cases K6:j<i+1+vs.length
    ·have h3:=dn (cur:=cur.setIfInBounds i v) (o:=i+1) (vs:=vs) (by simp;omega) (j-(i+1)) aa
     have h4:=dn (cur:=cur) (o:=i) (vs:=v::vs) (by simp only[List.length_cons];omega) (j-i) (by simp only[List.length_cons];omega)
     rw[show i+1+(j-(i+1))=j by omega]at h3
     rw[show i+(j-i)=j by omega]at h4
     rw[h3,h4,show j-i=(j-(i+1))+1 by omega]
     rfl
    ·rw[dL (by simp;omega) j (.inr aa),dL (by simp only[List.length_cons];omega) j (.inr (by simp only[List.length_cons];omega)),ay,al aa]
theorem qa (a:Act):∀ (ss:List Nat) (i:Nat),(Er i ss).map (λp=>(p.1,a.eval p.2))=xO i (ss.map a.get)
 | [],_=>rfl
 | s::r,i=>by
  simp only[Er,List.map_cons,xO,qa a r (i+1)]
  rfl
theorem jR {tSl te:Nat}(ot:OctT P tSl te){ops:Array Oper}{Q:Exit->Act->World->Prop}{r:List Oper}{a:Act}{w:World}{d:Nat}{ps:List (Nat × Operand)}{l:Bs}(hp:ps.map (λp=>(p.1,a.eval p.2))=xO 0 (l.map cP))(h0:l≠[])(hb:l.length<=16777216)
  (h:wpList P ops Q r (a.put (some d) (.slice (some ⟨w.heap.size,0,none⟩) l.length l.length)) (w.alloc (.cells (l.map cP).toArray te (0,0)))) :
  wpList P ops Q (mk (some d) (.buildSlice tSl l.length ps.toArray)::r) a w:=by
 obtain⟨i,z,hi,hz,Jc,O1,L4⟩:=ot.info
 refine bP (w':=w.alloc (.cells (l.map cP).toArray te (0,0))) ?_ h
 have hl:l.length≠0:=λh=>h0 (bf h)
 have Lc:=n9 (l.map cP) 0 ((Array.range l.length).map λk=>z.cells[k%z.cells.size]!) (λv hv=>by
  obtain⟨b,_,rfl⟩:=aP.1 hv
  rfl) ab
 rw[fL ab]at Lc
 have hm:(ps.toArray.map λ(p:Nat × Operand)=>(p.1,a.eval p.2)).toList=xO 0 (l.map cP):=by simpa using hp
 have S3:¬ (l.length > 16777216):=by omega
 simp[execOp,mk,Instr.buildSlice,run_underlying ot.und,sizeOf,typeInfo,zeroValue,hi,hz,Jc,S3,hl,hp,Lc,newRow,newObj,Sem.run]
theorem A9 {tX:Nat}{k:IntKind}(ot:OctT P K.tSl K.tU8)(hX:P.underlying tX=some (.int k))(h8:P.underlying K.tU8=some (.int .u8)){es:List OE}{E N:Act->World->Prop}{a:Act}{w:World}{x:Int}{n L:Nat}{d:Value}{bs:Bs}(Ym:4<n)
  (h0:a.get 0=d) (h1:a.get 1=.int k x) (Jf:∀ e∈es,e=(none,false) \/ (uk k/\0<=x/\x<2^k.bits/\∀ s,e.1=some s->s<=k.bits)) (LZ:es≠[]) (Uk:es.length<=10) (hs:n+3+gK es<=a.tmps.size)
  (hd:bS w L K.tU8 d bs) (hL:L<=w.heap.size) (hlim:bs.length+es.length<=fq)
  (h:∀ a' w' d',a'.defers=a.defers->a'.get 4=d'->Gr L K.tU8 d w d' (bs++d9 es x) w'->E a' w'):cf P (je K tX k es n).1 (Rt N E) a w:=by
 refine cC (bt (bF (bv ?_)))
 rw[bp,h0]
 refine zY hX h8 es (n+1) _ aa (by rw[b8 aa];exact h1) Jf (by simp only[bq];omega) λa1 IP IY JN=>?_
 have IX:=IP.size
 simp only[bq]at IX
 have IT:(d9 es x).length=es.length:=by simp[d9]
 rw[<- IT]
 refine jR ot (by rw[qa,IY]) (λhh=>LZ (by rw[hh]at IT;exact bf IT.symm)) aa ?_
 rw[IT]
 have hk:br (λ_=>False) w (w.alloc (.cells ((d9 es x).map cP).toArray K.tU8 (0,0))):=br.alloc _ _ _
 have Lo:io (w.alloc (.cells ((d9 es x).map cP).toArray K.tU8 (0,0))) w.heap.size 0 (d9 es x):=by
  intro j b hj
  have:=bO w (.cells ((d9 es x).map cP).toArray K.tU8 (0,0))
  simp only[World.cell?,this,aN,aQ,aD,hj]
  rfl
 refine iu ot (d:=d) (L:=L) (bs:=bs) (l:=d9 es x) ?_ (x:=.slice (some ⟨w.heap.size,0,none⟩) (d9 es x).length es.length) ?_ (hd.keep hk λ_ _ h=>h) (lQ ot Lo) (by have:=hk.size;omega) (by rw[IT];exact hlim) λd' w' hg=>?_
 ·rw[bp,b8 aa,IP.get n aa aa,bA aa]
 ·rw[bp,bA aa,IT]
 refine b7 (wpList_nil ?_)
 show LW P [cp .ret] _ _ _ _
 rw[bp,bA (by simp only[bq];omega)]
 refine bt (.ret ?_)
 exact h _ w' d' (by simp only[b6];rw[IP.defers,b6]) (bA (by simp only[bq];omega)) (Gr.pre hk (λ_ _ h=>h) hg)
end
structure WT (P:Program)(K:Kn):Prop where
 mixed:P.follows .mixedOrders=true
 oct:OctT P K.tSl K.tU8
 dU8:P.underlying K.tU8=some (.int .u8)
 dI8:cJ K.tI8=true->P.underlying K.tI8=some (.int .i8)
 dI16:P.underlying K.tI16=some (.int .i16)
 dU16:cJ K.tU16=true->P.underlying K.tU16=some (.int .u16)
 dI32:P.underlying K.tI32=some (.int .i32)
 dU32:P.underlying K.tU32=some (.int .u32)
 dInt:P.underlying K.tInt=some (.int .i64)
 dI64:cJ K.tI64=true->P.underlying K.tI64=some (.int .i64)
 dU64:cJ K.tU64=true->P.underlying K.tU64=some (.int .u64)
 dStr:P.underlying K.tStr=some .string
 vStr:cv P K.tStr false 1
def C3 (P:Program)(te f:Nat)(val:Value)(enc:Bs)(w:World)(L:Nat):Prop:=
 ∀ (d:Value) (bs:Bs),bS w L te d bs->L<=w.heap.size->bs.length+enc.length<=fq->Calls P f #[d,val] w λe w'=>∃ d',e=.returned d'/\Gr L te d w d' (bs++enc) w'
def ApC (P:Program)(te f:Nat)(val:Value)(enc:Bs)(w:World):Prop:=∀ L:Nat,C3 P te f val enc w L
def bR:Value:=.slice none 0 0
def z7 (n0:Nat)(l:List GC):Code:=(gS (co 4 bR::l) n0).1
section
variable {P:Program} {g:G} {K:Kn}
theorem F9 (hm:P.follows .mixedOrders=true){f ntmps n0:Nat}{l:List GC}{y z:Value}{w:World}{RR:Ending->World->Prop}(hfn:FnIs P f ntmps [4] (gS l n0).1)(Jg:2<=ntmps)
  (h:∀ a,a.get 0=y->a.get 1=z->a.tmps.size=ntmps->a.defers=[]->LW P l n0 (Rt (λ_ _=>False) (λa' w'=>a'.defers=[]/\RR (.returned (a'.get 4)) w')) a w):Calls P f #[y,z] w RR:=by
 refine hfn.calls hm ab ?_
 have:=h { tmps:=#[y,z]++Array.replicate (ntmps-(#[y,z]:Array Value).size) undef,defers:=[] } (by rw[db _ _ _ ab];rfl) (by rw[db _ _ _ ab];rfl) (dw #[y,z] ntmps Jg) rfl
 exact lV (cC this) (λ_ _ h=>h.elim) (λa w h=>⟨h.1,h.2⟩)
theorem jN (hm:P.follows .mixedOrders=true){f ntmps n0:Nat}{l:List GC}{y z:Value}{w:World}{RR:Ending->World->Prop}(hfn:FnIs P f ntmps [4] (z7 n0 l))(Jg:5<=ntmps)
  (h:∀ a,a.get 0=y->a.get 1=z->a.tmps.size=ntmps->a.defers=[]->LW P l n0 (Rt (λ_ _=>False) (λa' w'=>a'.defers=[]/\RR (.returned (a'.get 4)) w')) a w):Calls P f #[y,z] w RR:=by
 refine F9 hm hfn aa λa h0 h1 hs hd=>?_
 refine bt (bF (b7 (wpList_nil ?_)))
 exact h _ (by rw[b8 aa];exact h0) (by rw[b8 aa];exact h1) (by rw[bq];exact hs) (by rw[b6];exact hd)
section
variable {te L q f m:Nat} {d val:Value} {enc bs:Bs} {args:List Operand} {ops:Array Oper} {N E:Act->World->Prop} {a:Act} {w:World}
theorem k9 (hf:Ent P f)(J4:args.map a.eval=[d,val])(hc:C3 P te f val enc w L)(hd:bS w L te d bs)(hL:L<=w.heap.size)(hlim:bs.length+enc.length<=fq)(h4:4<a.tmps.size)(hq:q<a.tmps.size)
  (h:∀ a' w' d',a'.defers=a.defers->a'.get 4=d'->Gr L te d w d' (bs++enc) w'->E a' w') :
  wpList P ops (Exit.then (LW P [cp .ret] m (Rt N E)) (Rt N E)) [cl (some q) f args,mk (some 4) (.assign (tm q))] a w:=by
 refine cj (vs:=#[d,val]) hf (by rw[J4]) (hc d bs hd hL hlim) λe w' hR=>?_
 obtain⟨d',he,hg⟩:=hR
 refine⟨d',he,b7 (wpList_nil (bt (.ret ?_)))⟩
 rw[bp,fh _ _ _ hq]
 exact h _ w' d' (by simp only[b6]) (bA (by rw[bq];exact h4)) hg
theorem fI {r:List Oper}{z:Nat}{Q:Exit->Act->World->Prop}(hf:Ent P f)(J4:args.map a.eval=[d,val])(hc:C3 P te f val enc w L)(hd:bS w L te d bs)(hL:L<=w.heap.size)(hlim:bs.length+enc.length<=fq)(hq:q<a.tmps.size)
  (h:∀ w' d',Gr L te d w d' (bs++enc) w'->wpList P ops Q r ((a.put (some q) d').put (some z) d') w') :
  wpList P ops Q (cl (some q) f args::mk (some z) (.assign (tm q))::r) a w:=by
 refine cj (vs:=#[d,val]) hf (by rw[J4]) (hc d bs hd hL hlim) λe w' hR=>?_
 obtain⟨d',he,hg⟩:=hR
 refine⟨d',he,b7 ?_⟩
 rw[bp,fh _ _ _ hq]
 exact h w' d' hg
end
def cAI8 (K:Kn):Code:=z7 5 [je K K.tI8 .i8 [(none,false)]]
def cAU16 (K:Kn):Code:=z7 5 [je K K.tU16 .u16 [(some 8,false),(none,false)]]
def cAU32 (K:Kn):Code:=z7 5 [je K K.tU32 .u32 [(some 24,false),(some 16,false),(some 8,false),(none,false)]]
def cAU64 (K:Kn):Code:=z7 5 [je K K.tU64 .u64 [(some 56,false),(some 48,false),(some 40,false),(some 32,false),(some 24,false),(some 16,false),(some 8,false),(none,false)]]
def gCv (A B f:Nat):List GC:=[bL 4 λn=>[mk (some n) (.move (tm 0)),mk (some (n+1)) (.move (tm 1)),mk (some (n+2)) (.convert A B (tm (n+1))),cl (some (n+3)) f [tm n,tm (n+2)],mk (some 4) (.assign (tm (n+3)))],cp .ret]
def cACv (A B f:Nat):Code:=z7 5 (gCv A B f)
def I6 (K:Kn)(f:Nat):List GC:=[bL 5 λn=>[mk (some n) (.move (tm 0)),mk (some (n+1)) (.move (tm 1)),mk (some (n+2)) (.convert K.tInt K.tU32 (tm (n+1))),mk (some (n+3)) (.binOp .add K.tU32 (ki .u32 1) (tm (n+2)) 0),cl (some (n+4)) f [tm n,tm (n+3)],mk (some 4) (.assign (tm (n+4)))],cp .ret]
def cACv1 (K:Kn)(f:Nat):Code:=z7 5 (I6 K f)
theorem tc (wt:WT P K){f ntmps tX:Nat}{k:IntKind}{es:List OE}(hX:P.underlying tX=some (.int k))(hfn:FnIs P f ntmps [4] (z7 5 [je K tX k es]))(Jg:8+gK es<=ntmps)(LZ:es≠[])(Uk:es.length<=10){x:Int}
  (Jf:∀ e∈es,e=(none,false) \/ (uk k/\0<=x/\x<2^k.bits/\∀ s,e.1=some s->s<=k.bits)) (w:World):ApC P K.tU8 f (.int k x) (d9 es x) w:=by
 intro L d bs hd hL hlim
 have IT:(d9 es x).length=es.length:=by simp[d9]
 refine jN wt.mixed hfn aa λa h0 h1 hs J3=>?_
 refine bt ?_
 rw[cn]
 exact A9 wt.oct hX wt.dU8 aa h0 h1 Jf LZ Uk aa hd hL aa λa' w' d' hd' h4 hg=>⟨hd'.trans J3,d',by rw[h4],hg⟩
theorem yi (wt:WT P K){f f2 ntmps A B:Nat}{kA kB:IntKind}{x:Int}{enc:Bs}{w:World}(hA:P.underlying A=some (.int kA))(hB:P.underlying B=some (.int kB))(hfn:FnIs P f ntmps [4] (cACv A B f2))(Jg:9<=ntmps)(hE:Ent P f2)(hc:ApC P K.tU8 f2 (.int kB (kB.wrap x)) enc w) :
  ApC P K.tU8 f (.int kA x) enc w:=by
 intro L d bs hd hL hlim
 refine jN wt.mixed hfn aa λa h0 h1 hs J3=>?_
 refine bt (bF (bv (bv ?_)))
 refine ci (k:=kA) (k':=kB) (m:=x) (by rw[bp,bA (by rw[bq];omega),bp,b8 aa];exact h1) hA hB ?_
 refine k9 hE ?_ (hc L) hd hL hlim (by simp only[bq];omega) (by simp only[bq];omega) λa' w' d' hd' h4 hg=>⟨?_,d',by rw[h4],hg⟩
 ·simp only[List.map_cons,List.map_nil,bp]
  rw[b8 aa,b8 aa,bA aa,bA (by simp only[bq];omega),h0]
 ·rw[hd'];simp only[b6];exact J3
theorem FI (wt:WT P K){f f2 ntmps:Nat}{x:Int}{enc:Bs}{w:World}(hfn:FnIs P f ntmps [4] (cACv1 K f2))(Jg:10<=ntmps)(hE:Ent P f2)(hc:ApC P K.tU8 f2 (.int .u32 (IntKind.u32.wrap (1+IntKind.u32.wrap x))) enc w) :
  ApC P K.tU8 f (.int .i64 x) enc w:=by
 intro L d bs hd hL hlim
 refine jN wt.mixed hfn aa λa h0 h1 hs J3=>?_
 refine bt (bF (bv (bv ?_)))
 refine ci (k:=.i64) (k':=.u32) (m:=x) (by rw[bp,bA (by rw[bq];omega),bp,b8 aa];exact h1) wt.dInt wt.dU32 ?_
 refine ee (k:=.u32) (m:=1) (n:=IntKind.u32.wrap x) (v:=.int .u32 (IntKind.u32.wrap (1+IntKind.u32.wrap x))) rfl (by rw[bp,bA (by simp only[bq];omega)]) ab (by simp[binOp,Op.intArith]) ?_
 refine k9 hE ?_ (hc L) hd hL hlim (by simp only[bq];omega) (by simp only[bq];omega) λa' w' d' hd' h4 hg=>⟨?_,d',by rw[h4],hg⟩
 ·simp only[List.map_cons,List.map_nil,bp]
  rw[b8 aa,b8 aa,b8 aa,bA aa,bA (by simp only[bq];omega),h0]
 ·rw[hd'];simp only[b6];exact J3
theorem Cn (k:Nat)(x:Int)(m:Nat)(h:k<=m):be k (x%256^m)=be k x:=by
 induction k with
 | zero=>rfl
 | succ k ih=>
  simp only[be]
  rw[ih aa]
  congr 2
  have hp:(256:Int)^m=256^k*(256*256^(m-k-1)):=by
   rw[<- Int.pow_succ',<- Int.pow_add]
   congr 1;omega
  rw[hp]
  have hk:(0:Int)<256^k:=Int.pow_pos aa
  have e1:x%(256^k*(256*256^(m-k-1)))=x+256^k*(-(256*(256^(m-k-1)*(x/(256^k*(256*256^(m-k-1))))))):=by
   rw[Int.emod_def,Int.mul_neg,<- Int.sub_eq_add_neg]
   simp only[Int.mul_assoc]
  rw[e1,Int.add_mul_ediv_left _ _ aa]
  generalize 256^(m-k-1)*(x/(256^k*(256*256^(m-k-1))))=t
  generalize x/256^k=y
  congr 1
  omega
theorem I3 (x:Int):d9 [(some 8,false),(none,false)] x=be 2 x:=by simp[d9,kp,be]
theorem I2 (x:Int):d9 [(some 24,false),(some 16,false),(some 8,false),(none,false)] x=be 4 x:=by simp[d9,kp,be]
theorem I1 (x:Int):d9 [(some 56,false),(some 48,false),(some 40,false),(some 32,false),(some 24,false),(some 16,false),(some 8,false),(none,false)] x=be 8 x:=by simp[d9,kp,be]
end
def Il:Nat->Nat->Nat
 | 0,_=>0
 | f+1,x=>if x=0 then 0 else Il f (x/2)+1
def mc:List UInt8:=(List.range 256).map λi=>UInt8.ofNat (Il 9 i)
def uvT (n:Nat):UInt8:=UInt8.ofNat (if n=0 then 1 else if n<=64 then(n+6)/7 else 0)
def ow:List UInt8:=(List.range 256).map uvT
def CR (l:List UInt8):Value:=.string ⟨l.toArray⟩
def cLen32 (K:Kn)(tU:Nat):Code:=(gS [co 2 (.int .i64 0),
 gb 1 2 (λn=>[mk (some n) (.move (tm 0)),mk (some (n+1)) (.binOp .geq tU (tm n) (ki .u32 65536) 0)])
  (gS [bL 2 λn=>[mk (some n) (.move (tm 0)),mk (some (n+1)) (.binOp .shr tU (tm n) (ki .u64 16) 0),mk (some 0) (.assign (tm (n+1)))],co 2 (.int .i64 16)]) cY,
 gb 1 2 (λn=>[mk (some n) (.move (tm 0)),mk (some (n+1)) (.binOp .geq tU (tm n) (ki .u32 256) 0)])
  (gS [bL 2 λn=>[mk (some n) (.move (tm 0)),mk (some (n+1)) (.binOp .shr tU (tm n) (ki .u64 8) 0),mk (some 0) (.assign (tm (n+1)))],
   bL 2 λn=>[mk (some n) (.move (tm 2)),mk (some (n+1)) (.binOp .add K.tInt (tm n) (ki .i64 8) 0),mk (some 2) (.assign (tm (n+1)))]]) cY,
 bL 6 λn=>[mk (some n) (.move (tm 2)),mk (some (n+1)) (.move (tm 0)),mk (some (n+2)) (.convert tU K.tU8 (tm (n+1))),mk (some (n+3)) (.index K.tStr (.const (CR mc)) (tm (n+2))),mk (some (n+4)) (.convert K.tU8 K.tInt (tm (n+3))),
  mk (some (n+5)) (.binOp .add K.tInt (tm n) (tm (n+4)) 0),mk (some 2) (.assign (tm (n+5)))],cp .ret] 3).1
def cUvLen (K:Kn)(f:Nat):Code:=(gS [co 2 (.int .i64 0),bL 5 λn=>[mk (some n) (.move (tm 0)),cl (some (n+1)) f [tm n],mk (some (n+2)) (.convert K.tInt K.tU8 (tm (n+1))),mk (some (n+3)) (.index K.tStr (.const (CR ow)) (tm (n+2))),
 mk (some (n+4)) (.convert K.tU8 K.tInt (tm (n+3))),mk (some 2) (.assign (tm (n+4)))],cp .ret] 3).1
def Aj:List (Nat × List OE):=[(5,[(none,true),(some 7,true),(some 14,true),(some 21,true),(some 28,false)]),(4,[(none,true),(some 7,true),(some 14,true),(some 21,false)]),(3,[(none,true),(some 7,true),(some 14,false)]),(2,[(none,true),(some 7,false)]),(1,[(none,false)])]
def gU (K:Kn):List (Nat × List OE)->Nat->Code × Nat
 | [],n=>(.skip,n)
 | (j,es)::r,n=>(.seq (rg [mk (some (n+1)) (.binOp .eql K.tInt (tm 6) (ki .i64 j) 0),mk (some n) (.assign (tm (n+1)))]) (.cond (tm n) (je K K.tU32 .u32 es (n+2)).1 (gU K r (je K K.tU32 .u32 es (n+2)).2).1),(gU K r (je K K.tU32 .u32 es (n+2)).2).2)
def cAUv (K:Kn)(f:Nat):Code:=z7 5 [gS [bL 2 λn=>[mk (some n) (.move (tm 1)),cl (some (n+1)) f [tm n]],λn=>(.block 0 (gU K Aj n).1,(gU K Aj n).2)],
 bL 1 λn=>[mk (some n) (.move (tm 0)),mk (some 4) (.assign (tm n))],cp .ret]
def qH (x:Nat):Nat:=if x<128 then 1 else if x<16384 then 2 else if x<2097152 then 3 else if x<268435456 then 4 else 5
def kZ (x:Nat):Nat × Nat:=if 65536<=x then(x/65536,16) else(x,0)
def jE (p:Nat × Nat):Nat × Nat:=if 256<=p.1 then(p.1/256,p.2+8)else p
def BJ (x:Nat):Nat:=(jE (kZ x)).2+(mc.getD (jE (kZ x)).1 0).toNat
theorem xR:∀ y,y<256->(mc.getD y 0).toNat<=8/\y<2^(mc.getD y 0).toNat/\((mc.getD y 0).toNat=0 \/ 2^((mc.getD y 0).toNat-1)<=y):=by decide +kernel
theorem yy:∀ n,n<33->(ow.getD n 0).toNat=if n=0 then 1 else(n+6)/7:=by decide +kernel
theorem E4 {x:Nat}(h:x<4294967296):BJ x<33/\(ow.getD (BJ x) 0).toNat=qH x:=by
 have hb:(jE (kZ x)).1<256:=by
  simp only[jE,kZ];split<;>split<;>simp<;>omega
 obtain⟨h1,h2,h3⟩:=xR _ hb
 have hx:BJ x<33:=by
  simp only[BJ]
  have:(jE (kZ x)).2<=24:=by simp only[jE,kZ];split<;>split<;>simp
  omega
 refine⟨hx,?_⟩
 rw[yy _ hx]
 generalize ht:(mc.getD (jE (kZ x)).1 0).toNat=t at h1 h2 h3
 have hl:BJ x=(jE (kZ x)).2+t:=by simp only[BJ,ht]
 rw[hl]
 clear hl hx ht
 simp only[jE,kZ,qH]at *
 by_cases c1:65536<=x
 ·simp only[ax c1]at *
  by_cases c2:256<=x/65536
  ·simp only[ax c2]at *
   rcases(show t=0 \/ t=1 \/ t=2 \/ t=3 \/ t=4 \/ t=5 \/ t=6 \/ t=7 \/ t=8 by omega)with rfl|rfl|rfl|rfl|rfl|rfl|rfl|rfl|rfl<;>simp at h2 h3 ⊢<;>(repeat' split)<;>omega
  ·simp only[al c2]at *
   rcases(show t=0 \/ t=1 \/ t=2 \/ t=3 \/ t=4 \/ t=5 \/ t=6 \/ t=7 \/ t=8 by omega)with rfl|rfl|rfl|rfl|rfl|rfl|rfl|rfl|rfl<;>simp at h2 h3 ⊢<;>(repeat' split)<;>omega
 ·simp only[al c1]at *
  by_cases c2:256<=x
  ·simp only[ax c2]at *
   rcases(show t=0 \/ t=1 \/ t=2 \/ t=3 \/ t=4 \/ t=5 \/ t=6 \/ t=7 \/ t=8 by omega)with rfl|rfl|rfl|rfl|rfl|rfl|rfl|rfl|rfl<;>simp at h2 h3 ⊢<;>(repeat' split)<;>omega
  ·simp only[al c2]at *
   rcases(show t=0 \/ t=1 \/ t=2 \/ t=3 \/ t=4 \/ t=5 \/ t=6 \/ t=7 \/ t=8 by omega)with rfl|rfl|rfl|rfl|rfl|rfl|rfl|rfl|rfl<;>simp at h2 h3 ⊢<;>(repeat' split)<;>omega
theorem CF {x:Nat}(h:x<4294967296):∃ es,Aj.lookup (qH x)=some es/\d9 es x=uvar x:=by
 have d:∀ (a b:Nat),((x:Int)/(2:Int)^a)=((x/2^a:Nat):Int):=λa _=>by push_cast;rfl
 simp only[qH]
 by_cases c1:x<128
 ·rw[ax c1]
  refine⟨_,rfl,?_⟩
  have e:((x:Int)%256).toNat=x:=by omega
  simp[d9,kp,uvar,dD,c1,e]
 rw[al c1]
 by_cases c2:x<16384
 ·rw[ax c2]
  refine⟨_,rfl,?_⟩
  have d1:x/128<128:=by omega
  have e0:((x:Int)%128+128).toNat=x%128+128:=by omega
  have e1:((x:Int)/128%256).toNat=x/128:=by omega
  simp[d9,kp,uvar,dD,c1,d1,e0,e1]
 rw[al c2]
 by_cases c3:x<2097152
 ·rw[ax c3]
  refine⟨_,rfl,?_⟩
  have d1:¬ x/128<128:=by omega
  have d2:x/128/128<128:=by omega
  have e0:((x:Int)%128+128).toNat=x%128+128:=by omega
  have e1:((x:Int)/128%128+128).toNat=x/128%128+128:=by omega
  have e2:((x:Int)/16384%256).toNat=x/128/128:=by omega
  simp[d9,kp,uvar,dD,c1,d1,d2,e0,e1,e2]
 rw[al c3]
 by_cases c4:x<268435456
 ·rw[ax c4]
  refine⟨_,rfl,?_⟩
  have d1:¬ x/128<128:=by omega
  have d2:¬ x/128/128<128:=by omega
  have d3:x/128/128/128<128:=by omega
  have e0:((x:Int)%128+128).toNat=x%128+128:=by omega
  have e1:((x:Int)/128%128+128).toNat=x/128%128+128:=by omega
  have e2:((x:Int)/16384%128+128).toNat=x/128/128%128+128:=by omega
  have e3:((x:Int)/2097152%256).toNat=x/128/128/128:=by omega
  simp[d9,kp,uvar,dD,c1,d1,d2,d3,e0,e1,e2,e3]
 rw[al c4]
 refine⟨_,rfl,?_⟩
 have d1:¬ x/128<128:=by omega
 have d2:¬ x/128/128<128:=by omega
 have d3:¬ x/128/128/128<128:=by omega
 have d4:x/128/128/128/128<128:=by omega
 have e0:((x:Int)%128+128).toNat=x%128+128:=by omega
 have e1:((x:Int)/128%128+128).toNat=x/128%128+128:=by omega
 have e2:((x:Int)/16384%128+128).toNat=x/128/128%128+128:=by omega
 have e3:((x:Int)/2097152%128+128).toNat=x/128/128/128%128+128:=by omega
 have e4:((x:Int)/268435456%256).toNat=x/128/128/128/128:=by omega
 simp[d9,kp,uvar,dD,c1,d1,d2,d3,d4,e0,e1,e2,e3,e4]
def cAUuid (K:Kn):Code:=sq [rg [mk (some 3) (.box K.tUuid (tm 1)),mk (some 4) (.assign (.const bR))],
 rg [mk (some 5) (.move (tm 0)),mk (some 6) (.slice K.tUuid (tm 3) none none none),bi (some 7) .append [tm 5,tm 6] [K.tSl,K.tSl] K.tSl,mk (some 4) (.assign (tm 7))],.ret]
def sO (K:Kn)(tX:Nat):List GC:=[bL 3 λn=>[mk (some n) (.move (tm 0)),mk (some (n+1)) (.move (tm 1)),bi (some (n+2)) .append [tm n,tm (n+1)] [K.tSl,tX] K.tSl,mk (some 4) (.assign (tm (n+2)))],cp .ret]
def cAStr (K:Kn)(tX tI f:Nat):Code:=z7 5 ((bL 5 λn=>[mk (some n) (.move (tm 0)),mk (some (n+1)) (.move (tm 1)),bi (some (n+2)) .len [tm (n+1)] [tX] K.tInt,mk (some (n+3)) (.convert K.tInt tI (tm (n+2))),cl (some (n+4)) f [tm n,tm (n+3)],mk (some 0) (.assign (tm (n+4)))])::sO K tX)
def cACStr (K:Kn)(tX f:Nat):Code:=z7 5 ((bL 6 λn=>[mk (some n) (.move (tm 0)),mk (some (n+1)) (.move (tm 1)),bi (some (n+2)) .len [tm (n+1)] [tX] K.tInt,mk (some (n+3)) (.convert K.tInt K.tU32 (tm (n+2))),mk (some (n+4)) (.binOp .add K.tU32 (ki .u32 1) (tm (n+3)) 0),
 cl (some (n+5)) f [tm n,tm (n+4)],mk (some 0) (.assign (tm (n+5)))])::sO K tX)
def wT (T:Nat)(z c:Value)(f:Nat):GC:=gb 1 2 (λn=>[mk (some n) (.move (tm 1)),mk (some (n+1)) (.binOp .eql T (tm n) (.const z) 0)])
 (gS [bL 2 λn=>[mk (some n) (.move (tm 0)),cl (some (n+1)) f [tm n,.const c],mk (some 4) (.assign (tm (n+1)))],cp .ret]) cY
def cANStr (K:Kn)(tP:Nat)(c:Value)(f f2:Nat):Code:=z7 5 [wT tP (.pointer none) c f,
 bL 5 λn=>[mk (some n) (.move (tm 0)),mk (some (n+1)) (.move (tm 1)),mk (some (n+2)) (.nilCheck (tm (n+1))),mk (some (n+3)) (.load K.tStr (tm (n+2))),cl (some (n+4)) f2 [tm n,tm (n+3)],mk (some 4) (.assign (tm (n+4)))],cp .ret]
def cTLen (K:Kn)(tTags tM:Nat):Code:=(gS [co 2 (.int .i64 0),bL 5 λn=>[mk (some n) (.move (tm 0)),mk (some (n+1)) (.nilCheck (tm n)),mk (some (n+2)) (.fieldAddr tTags (tm (n+1)) 0),mk (some (n+3)) (.load tM (tm (n+2))),bi (some (n+4)) .len [tm (n+3)] [tM] K.tInt,mk (some 2) (.assign (tm (n+4)))],cp .ret] 3).1
def lL (p:PF)(cs:List Value)(val:Value):Prop:=if p=.uuid then val=.agg cs.toArray else cs=[val]
def pv:Option eH->Int->Value
 | some p,x=>.int p.kind x
 | none,_=>.string ⟨#[]⟩
def kH:Option eH->Value->Prop
 | some p,y=>∃ x,y=.int p.kind x
 | none,y=>∃ l:Bs,y=.string ⟨l.toArray⟩
def gY:Option eH->Int->Value->Bool
 | some _,df,.int _ x=>x==df
 | none,_,.string b=>b.data.toList.isEmpty
 | _,_,_=>false
structure SmC (P:Program)(s:Sm):Prop where
 var:cv P s.F true s.sz
 zC:∃ z:Value,z.cells.size=s.sz/\∀ w,(zeroValue s.F).run P w=.ok z w
 dE:Ent P s.fDef
 dC:∀ w:World,Calls P s.fDef ([]:List Value).toArray w λe w'=>br (λ_=>False) w w'/\∃ z:List Value,e=.returned (.agg z.toArray)/\z.length=s.sz/\z[s.toff]?=some (.map none)/\∀ q∈s.ds,z[q.1]?=some (pv q.2.1 q.2.2)
 sE:Ent P s.fSame
 sC:∀ (w:World) (x z:List Value) (m:Option Nat),x.length=s.sz->z.length=s.sz->x[s.toff]?=some (.map m)->z[s.toff]?=some (.map none)->(∀ q∈s.ds,z[q.1]?=some (pv q.2.1 q.2.2))->(∀ q∈s.ds,∃ y,x[q.1]?=some y/\kH q.2.1 y) ->
  Calls P s.fSame ([.agg x.toArray,.agg z.toArray]:List Value).toArray w λe w'=>br (λ_=>False) w w'/\e=.returned (.bool ((s.ds.all λq=>gY q.2.1 q.2.2 ((x[q.1]?).getD undef))&&m.isNone))
structure KW (P:Program)(g:GW)(av:PF->Bool)(fl nl:Bool)(te:Nat):Prop where
 mixed:P.follows .mixedOrders=true
 oct:OctT P g.tSl te
 dInt:P.underlying g.tInt=some (.int .i64)
 dU32:fl=true->P.underlying g.tU32=some (.int .u32)
 apE:∀ p,av p=true->Ent P (g.ap p)
 apC:∀ p,av p=true->∀ (w:World) (L:Nat) (cs:List Value) (val:Value) (v:V),jD w (λk=>L<=k) (j8 p) cs v->lL p cs val->C3 P te (g.ap p) val (p.wr v) w L
 alE:cJ g.alen=true->Ent P g.alen
 alC:cJ g.alen=true->∀ (n:Nat) (w:World),ApC P te g.alen (.int .i64 n) (be 4 n) w
 clE:fl=true->cJ g.calen=true->Ent P g.calen
 clC:fl=true->cJ g.calen=true->∀ (n:Nat) (w:World),ApC P te g.calen (.int .i64 n) (uvar (f9 (n+1))) w
 nlE:nl=true->Ent P g.nalen
 nlC:nl=true->∀ (n:Nat) (b:Bool) (w:World) (L:Nat) (d:Value) (bs:Bs),bS w L te d bs->L<=w.heap.size->bs.length+(if b then eJ false 4 else kf false n).length<=fq ->
  Calls P g.nalen #[d,.int .i64 n,.bool b] w λe w'=>∃ d',e=.returned d'/\Gr L te d w d' (bs++(if b then eJ false 4 else kf false n)) w'
 cnE:nl=true->fl=true->Ent P g.cnalen
 cnC:nl=true->fl=true->∀ (n:Nat) (b:Bool) (w:World) (L:Nat) (d:Value) (bs:Bs),bS w L te d bs->L<=w.heap.size->bs.length+(if b then eJ true 4 else kf true n).length<=fq ->
  Calls P g.cnalen #[d,.int .i64 n,.bool b] w λe w'=>∃ d',e=.returned d'/\Gr L te d w d' (bs++(if b then eJ true 4 else kf true n)) w'
 uvE:fl=true->Ent P g.uv
 uvC:fl=true->∀ (x:Nat) (w:World),x<4294967296->ApC P te g.uv (.int .u32 x) (uvar x) w
 tlE:fl=true->Ent P g.tlen
 tlC:fl=true->∀ (w:World) (b o:Nat) (m:Value) (X:Nat->Prop) (t:List (Nat × Bs)),w.cell? ⟨b,o,none⟩=some m->eA w X m t->Calls P g.tlen #[pt b o] w λe w'=>e=.returned (.int .i64 t.length)/\br (λ_=>False) w w'
 teE:fl=true->Ent P g.teach
 teC:fl=true->∀ (w:World) (b o:Nat) (m:Value) (L:Nat) (t:List (Nat × Bs)) (d:Value) (bs:Bs),w.cell? ⟨b,o,none⟩=some m->(b<w.heap.size/\d.ownBlock≠some b)->eA w (λk=>L<=k) m t->bS w L te d bs->L<=w.heap.size->bs.length+(cM t).length<=fq ->
  Calls P g.teach #[pt b o,d] w λe w'=>∃ d',e=.returned d'/\Gr L te d w d' (bs++cM t) w'
 smC:∀ s∈g.sm,SmC P s
 uuid:av .uuid=true->cv P g.tUuid true 16/\∀ w,(zeroValue g.tUuid).run P w=.ok (.agg (Array.replicate 16 (.int .u8 0))) w
structure pe (cx:Cx)(m k0:Nat):Prop where
 s:cx.s<m/\cx.s≠1
 ver:cx.ver<m/\cx.ver≠1
 fx:cx.fx<m/\cx.fx≠1
 one:1<m
 le:m<=k0
structure WC (cx:Cx)(fx:Bool)(ver:Int)(te L B O:Nat)(d:Value)(bs:Bs)(a:Act)(w:World):Prop where
 dst:bS w L te d bs
 s1:a.get 1=d
 ss:a.get cx.s=pt B O
 sv:a.get cx.ver=.int .i16 ver
 sf:cx.hf=true->a.get cx.fx=.bool fx
 nf:cx.hf=false->fx=false
 BL:B<L
 Lw:L<=w.heap.size
section
variable {P:Program} {g:GW} {av:PF->Bool} {fl nl:Bool} {te:Nat} {cx:Cx} {fx:Bool} {ver:Int} {L B O m k0 n:Nat} {d:Value} {bs:Bs} {K N E:Act->World->Prop} {Q:Exit->Act->World->Prop} {a:Act} {w:World}
theorem WC.step {d':Value}{bs':Bs}{a':Act}{w':World}(h:WC cx fx ver te L B O d bs a w)(hc:pe cx m k0)(hp:Pv 1 m k0 n a a')(h1:a'.get 1=d')(hg:Gr L te d w d' bs' w'):WC cx fx ver te L B O d' bs' a' w':=
 ⟨hg.dst,h1,by rw[hp.get _ hc.s.2 (.inl hc.s.1)];exact h.ss,by rw[hp.get _ hc.ver.2 (.inl hc.ver.1)];exact h.sv,λhf=>by rw[hp.get _ hc.fx.2 (.inl hc.fx.1)];exact h.sf hf,h.nf,h.BL,am h.Lw hg.keeps.size⟩
theorem WC.at {s B' O':Nat}{a':Act}(h:WC cx fx ver te L B O d bs a w)(hc:pe cx m k0)(hp:Pv 1 m k0 n a a')(h1:a'.get 1=d)(hs:a'.get s=pt B' O')(hB:B'<L):WC { cx with s:=s } fx ver te L B' O' d bs a' w:=
 ⟨h.dst,h1,hs,by rw[hp.get _ hc.ver.2 (.inl hc.ver.1)];exact h.sv,λhf=>by rw[hp.get _ hc.fx.2 (.inl hc.fx.1)];exact h.sf hf,h.nf,hB,h.Lw⟩
theorem pe.at {s m':Nat}(h:pe cx m k0)(hs:m<=s/\s<m')(hm:m<=m')(hk:m'<=k0):pe { cx with s:=s } m' k0:=
 ⟨⟨hs.2,by have:=h.one;show s≠1;omega⟩,⟨az h.ver.1 hm,h.ver.2⟩,⟨az h.fx.1 hm,h.fx.2⟩,az h.one hm,hk⟩
theorem pe.mono {m':Nat}(h:pe cx m k0)(hm:m<=m')(hk:m'<=k0):pe cx m' k0:=
 ⟨⟨by have:=h.s;omega,h.s.2⟩,⟨by have:=h.ver;omega,h.ver.2⟩,⟨by have:=h.fx;omega,h.fx.2⟩,by have:=h.one;omega,hk⟩
theorem rT {f v:Nat}{val:Value}{enc:Bs}(hE:Ent P f)(hc:C3 P te f val enc w L)(h1:a.get 1=d)(hv:a.get v=val)(Rb:v<n)(hd:bS w L te d bs)(hL:L<=w.heap.size)(hlim:bs.length+enc.length<=fq)(hm:m<=k0)(hk:k0<=n)(_h1m:1<n)(hn:n+3<=a.tmps.size)
  (h:∀ a' w' d',Pv 1 m k0 n a a'->a'.get 1=d'->Gr L te d w d' (bs++enc) w'->K a' w'):cf P (cV f v n).1 (Exit.then K Q) a w:=by
 refine bF (bv (bv (fI hE ?_ hc hd hL hlim (by simp only[bq];omega) λw' d' hg=>wpList_nil (h _ w' d' ?_ (bA (by simp only[bq];omega)) hg))))
 ·simp only[List.map_cons,List.map_nil,bp]
  rw[b8 aa,bA aa,bA (by simp only[bq];omega),b8 aa,h1,hv]
 ·exact((((Pv.refl _ _ _ _ _).put _ aa).put _ aa).put _ aa).put _ (.inl rfl)
theorem xG {f v p:Nat}{cs:List Value}{enc:Bs}(hV:cv P g.tUuid true 16)(hE:Ent P f)(hc:C3 P te f (.agg cs.toArray) enc w L)(h1:a.get 1=d)(hv:a.get v=pt p 0)(Js:bB w p 0 cs)(hl:cs.length=16)(Rb:v<n)(hd:bS w L te d bs)(hL:L<=w.heap.size)(hlim:bs.length+enc.length<=fq)(hm:m<=k0)(hk:k0<=n)(Ky:1<n)(hn:n+3<=a.tmps.size)
  (h:∀ a' w' d',Pv 1 m k0 n a a'->a'.get 1=d'->Gr L te d w d' (bs++enc) w'->K a' w'):cf P (wR g f v n).1 (Exit.then K Q) a w:=by
 refine bF (bv (gN (b:=p) (o:=0) (cs:=cs) (by rw[bp,b8 aa];exact hv) (hV.agg w) (by rw[hl];exact hV.size w) Js (fI hE ?_ hc hd hL hlim (by simp only[bq];omega) λw' d' hg=>wpList_nil (h _ w' d' ?_ (bA (by simp only[bq];omega)) hg))))
 ·simp only[List.map_cons,List.map_nil,bp]
  rw[b8 aa,bA aa,bA (by simp only[bq];omega),h1]
 ·exact((((Pv.refl _ _ _ _ _).put _ aa).put _ aa).put _ aa).put _ (.inl rfl)
theorem A1 {A C:GC}(hA:Up A)(hC:Up C)(hw:WC cx fx ver te L B O d bs a w)(hc:pe cx m k0)(hk:k0<=n)(hn:(iq cx A C n).2<=a.tmps.size)(Kj:n<a.tmps.size)
  (h:∀ (a':Act) (n':Nat),Pv 1 m k0 n a a'->a'.get 1=d->(∀ s,s<n->a'.get s=a.get s)->n<=n'->((if fx then A else C) n').2<=a.tmps.size->cf P ((if fx then A else C) n').1 Q a' w):cf P (iq cx A C n).1 Q a w:=by
 have Jj:=hc.le
 have h1:=hc.one
 unfold iq at hn ⊢
 cases hf:cx.hf with
 | false=>
  rw[hf]at hn
  simp only[ag,ak]at hn ⊢
  have Ku:=hw.nf hf
  subst Ku
  exact h a n (Pv.refl _ _ _ _ _) hw.s1 (λ_ _=>rfl) (ae _) hn
 | true=>
  rw[hf]at hn
  simp only[aw]at hn ⊢
  have hn':(C (A (n+1)).2).2<=a.tmps.size:=hn
  have u1:=hA (n+1)
  have u2:=hC (A (n+1)).2
  refine q4 (x:=n) (m:=k0) (k0:=k0) (hw.sf hf) (ae _) hk Kj λa' hp=>?_
  have Jx:Pv 1 m k0 n a a':=⟨hp.size,hp.defers,λs hs Jr=>hp.get s aa aa⟩
  have h1':a'.get 1=d:=by rw[hp.get 1 aa (.inl aa)];exact hw.s1
  have Je:∀ s,s<n->a'.get s=a.get s:=λs hs=>hp.get s aa aa
  cases fx with
  | true=>exact h a' (n+1) Jx h1' Je aa (by simp only[aw];omega)
  | false=>exact h a' (A (n+1)).2 Jx h1' Je aa (by simpa using hn')
theorem EM {v i b1 b2 F E' len c:Nat}{base:Option Addr}{body:List GC}(hv:a.get v=.slice base len c)(hF:P.underlying F=some (.slice E'))(hi:m<=i/\i<k0)(_hvi:v<i)(h1i:1<i)(hk:k0<=n)(hn:(jb g v i b1 b2 F body n).2<=a.tmps.size)(KM:n+5<=(gS body (n+5)).2)
  (IT:len<=maxLen) (W:Nat->Value->World->Prop) (h0:W 0 (a.get 1) w)
  (Kq:∀ (j:Nat) (a1:Act) (w1:World),j<len->Pv 1 i k0 n a a1->a1.get i=.int .i64 j->W j (a1.get 1) w1->cf P (gS body (n+5)).1 (Rt (λa2 w2=>Pv 1 (i+1) k0 (n+5) a1 a2/\W (j+1) (a2.get 1) w2) E) a1 w1)
  (Pr:∀ a1 w1,Pv 1 i k0 n a a1->W len (a1.get 1) w1->K a1 w1):cf P (jb g v i b1 b2 F body n).1 (Rt K E) a w:=by
 have hn':(gS body (n+5)).2+1<=a.tmps.size:=hn
 unfold jb
 generalize hz:(gS body (n+5)).2=z at hn' KM
 refine .seq (R:=Rt (λa' w'=>Pv 1 i k0 n a a'/\a'.get (n+1)=.int .i64 (len:Int)/\a'.get (n+2)=.int .i64 ((0:Nat):Int)/\a'.get 1=a.get 1/\w'=w) E) (.reg (bv ?_)) (λa' w' hh=>?_) (λe a w he hq=>by cases e<;>first|exact absurd rfl he|exact hq)
 ·rw[bp,hv]
  refine gi (base:=base) (n:=len) (c:=c) (by rw[bp,bA aa]) hF (bv (wpList_nil ⟨?_,?_,?_,?_,rfl⟩))
  ·exact(((Pv.refl _ _ _ _ _).put _ aa).put _ aa).put _ aa
  ·rw[b8 aa,bA (by simp only[bq];omega)]
  ·rw[bA (by simp only[bq];omega)];rfl
  ·rw[b8 aa,b8 aa,b8 aa]
 ·obtain⟨hp,OD,RL,IY,rfl⟩:=hh
  refine .block (.loop (λa1 w1=>∃ j:Nat,j<=len/\Pv 1 i k0 n a a1/\a1.get (n+1)=.int .i64 (len:Int)/\a1.get (n+2)=.int .i64 (j:Int)/\W j (a1.get 1) w1) (λa1 _=>((len:Int)-(match a1.get (n+2)with|.int _ q=>q|_=>0)).toNat) ⟨0,by omega,hp,OD,RL,by rw[IY];exact h0⟩ ?_)
  rintro a1 w1 ⟨j,hj,IP,Pm,MQ,hW⟩
  have IX:=IP.size
  have Jh:∀ (b:Bool),b=decide ((j:Int)<(len:Int))->wpList P [mk (some (n+3)) (.binOp .lss g.tInt (tm (n+2)) (tm (n+1)) 0)].toArray
    (Rt (λa' w'=>a'.eval (tm (n+3))=.bool b/\a'=a1.put (some (n+3)) (.bool b)/\w'=w1) E) [mk (some (n+3)) (.binOp .lss g.tInt (tm (n+2)) (tm (n+1)) 0)] a1 w1:=by
   intro b hb
   refine cZ (b:=b) (p:=j) (q:=len) (k:=.i64) MQ Pm (.inr (.inr (.inl ⟨rfl,hb⟩))) (wpList_nil ?_)
   exact⟨by rw[bp,bA aa],rfl,rfl⟩
  by_cases IU:j<len
  ·refine .seq (R:=Rt (λa' w'=>a'.eval (tm (n+3))=.bool true/\a'=a1.put (some (n+3)) (.bool true)/\w'=w1) E) (.reg (Jh true (by simp[IU]))) (λa2 w2 hh=>?_) (λe a w he hq=>by cases e<;>first|exact absurd rfl he|exact hq|exact hq.elim)
   obtain⟨L0,rfl,rfl⟩:=hh
   refine .seq (R:=Rt (λa' w'=>a'=a1.put (some (n+3)) (.bool true)/\w'=w2) E) (.condT L0 (.skip ⟨rfl,rfl⟩)) (λa2 w3 hh=>?_) (λe a w he hq=>by cases e<;>first|exact absurd rfl he|exact hq|exact hq.elim)
   obtain⟨rfl,rfl⟩:=hh
   refine .seq (R:=Rt (λa3 w3=>Pv 1 i k0 n a a3/\a3.get (n+1)=.int .i64 (len:Int)/\a3.get (n+2)=.int .i64 (j:Int)/\W (j+1) (a3.get 1) w3) E) (.block (.seq (R:=Rt (λa3 w4=>Pv 1 i k0 n a a3/\a3.get (n+1)=.int .i64 (len:Int)/\a3.get (n+2)=.int .i64 (j:Int)/\a3.get i=.int .i64 (j:Int)/\W j (a3.get 1) w4) E) (.reg (bv ?_)) (λa3 w4 hh=>?_) (λe a w he hq=>by cases e<;>first|exact absurd rfl he|exact hq|exact hq.elim)))
    (λa3 w4 hh=>?_) (λe a w he hq=>by cases e<;>first|exact absurd rfl he|exact hq|exact hq.elim)
   ·rw[bp,b8 aa,MQ]
    refine b7 (wpList_nil ⟨?_,?_,?_,?_,?_⟩)
    ·exact((IP.put _ aa).put _ aa).put _ aa
    ·rw[b8 aa,b8 aa,b8 aa];exact Pm
    ·rw[b8 aa,b8 aa,b8 aa];exact MQ
    ·rw[bA (by simp only[bq];omega),bp,bA (by simp only[bq];omega)]
    ·rw[b8 aa,b8 aa,b8 aa];exact hW
   ·obtain⟨IW,NG,NH,Xg,NT⟩:=hh
    refine .mono (Kq j a3 w4 IU IW Xg NT) λe a4 w5 hq=>?_
    cases e<;>first|exact hq.elim|skip
    ·obtain⟨Jp,hW4⟩:=hq
     exact⟨IW.trans (Jp.mono aa aa),by rw[Jp.get _ aa (.inr aa)];exact NG,by rw[Jp.get _ aa (.inr aa)];exact NH,hW4⟩
    ·exact hq
   ·obtain⟨IW,NG,NH,NT⟩:=hh
    have JI:=IW.size
    have JO:IntKind.i64.wrap ((j:Int)+1)=((j+1:Nat):Int):=by simp only[maxLen]at IT;simp[IntKind.wrap,IntKind.bits,IntKind.signed];omega
    refine .reg (ee (v:=.int .i64 ((j+1:Nat):Int)) (k:=.i64) (m:=j) (n:=1) NH rfl ab (by simp[binOp,Op.intArith,JO]) (bv (wpList_nil ?_)))
    rw[bp,bA aa]
    have Lx:((a3.put (some z) (.int .i64 ((j+1:Nat):Int))).put (some (n+2)) (.int .i64 ((j+1:Nat):Int))).get (n+2)=.int .i64 ((j+1:Nat):Int):=bA (by simp only[bq];omega)
    refine⟨⟨j+1,by omega,(IW.put _ aa).put _ aa,?_,Lx,?_⟩,?_⟩
    ·rw[b8 aa,b8 aa];exact NG
    ·rw[b8 aa,b8 aa];exact NT
    ·rw[Lx,MQ]
     simp only
     omega
  ·have TP:j=len:=by omega
   subst TP
   refine .seq (R:=Rt (λa' w'=>a'.eval (tm (n+3))=.bool false/\a'=a1.put (some (n+3)) (.bool false)/\w'=w1) E) (.reg (Jh false ab)) (λa2 w2 hh=>?_) (λe a w he hq=>by cases e<;>first|exact absurd rfl he|exact hq|exact hq.elim)
   obtain⟨L0,rfl,rfl⟩:=hh
   refine .seq (R:=λe a w=>e≠.normal/\Exit.inBlock b1 (Rt K E) e a w) (.condF L0 (.exit ?_)) (λa2 w2 hh=>absurd rfl hh.1) (λe a w he hq=>?_)
   ·simp only[Exit.inBlock,aw]
    refine⟨by simp,Pr _ _ (IP.put _ aa) ?_⟩
    rw[b8 aa];exact hW
   ·rw[dY he];exact hq.2
end
section
open Go
set_option maxRecDepth 100000
structure SN where
 tInt:Nat
 tI64:Nat
 tU8:Nat
 tU64:Nat
 tU32:Nat
 tU16:Nat
 tB:Nat
 tSl:Nat
 tF:Nat
 tFs:Nat
 tT:Nat
 tTs:Nat
 tG:Nat
 tGs:Nat
 tMs:Nat
 fPart:Nat
 fHas:Nat
 fField:Nat
 fAt:Nat
 fKnown:Nat
 fUsual:Nat
 fUv:Nat
 fUnk:Nat
 fWhole:Nat
 fNull:Nat
 fThings:Nat
 fCnt:Nat
 fVal:Nat
 fFix:Nat
 fWid:Nat
 fWrite:Nat
 fSame:Nat
 fZ2:Nat
 fZ3:Nat
 fZ4:Nat
def Hp (S:SN):List Oper:=[mk (some 7) (.box S.tT (tm 3)),mk (some 8) (.assign (.const bR))]
def Ho (_S:SN):List Oper:=[mk (some 9) (.assign (.const bR)),mk (some 10) (.assign (.const bR))]
def Hn (_S:SN):List Oper:=[mk (some 11) (.assign (ki .i64 0))]
def Ef (S:SN):List Oper:=[mk (some 21) (.move (tm 0)),bi (some 22) .len [(tm 21)] [S.tFs] S.tInt,mk (some 23) (.move (ki .i64 0))]
def Ee (S:SN):List Oper:=[mk (some 24) (.binOp .lss S.tInt (tm 23) (tm 22) 0)]
def Ed (S:SN):List Oper:=[mk (some 25) (.move (tm 23)),mk (some 26) (.indexAddr S.tFs (tm 21) (tm 23)),mk (some 27) (.load S.tF (tm 26)),mk (some 13) (.alloc S.tF),mk (some 12) (.assign (tm 25)),mk none (.store S.tF (tm 13) (tm 27))]
def Ec (S:SN):List Oper:=[mk (some 28) (.fieldAddr S.tF (tm 13) 4),mk (some 29) (.load S.tInt (tm 28)),mk (some 30) (.binOp .lss S.tInt (tm 29) (ki .i64 0) 0),mk (some 31) (.move (tm 30)),gd 32 (.load S.tF (tm 13)) 3 true,gd 33 (.move (tm 1)) 3 true,gd 34 (.call ⟨.value (.func S.fHas),#[(tm 32),(tm 33)],#[]⟩) 3 true,mk (some 35) (.pick (tm 31) (tm 34) (.const (.bool false)))]
def Bp (S:SN):List Oper:=[mk (some 36) (.move (tm 9)),mk (some 37) (.load S.tF (tm 13)),mk (some 38) (.move (tm 1)),mk (some 39) (.move (tm 2)),mk (some 40) (.load S.tT (tm 7)),mk (some 41) (.move (tm 12)),cl (some 42) S.fAt [(tm 40),(tm 41)],cl (some 43) S.fField [(tm 37),(tm 38),(tm 39),(tm 42)],bi (some 44) .append [(tm 36),(tm 43)] [S.tSl,S.tSl] S.tSl,mk (some 9) (.assign (tm 44))]
def Bo (S:SN):List Oper:=[mk (some 45) (.binOp .add S.tInt (tm 23) (ki .i64 1) 0),mk (some 23) (.move (tm 45))]
def Hm (S:SN):List Oper:=[mk (some 46) (.move (tm 2)),mk (some 47) (.unOp .not S.tB (tm 46))]
def Fu (_S:SN):List Oper:=[mk (some 48) (.move (tm 9)),mk (some 8) (.assign (tm 48))]
def Ft (S:SN):List Oper:=[mk (some 49) (.move (tm 0)),cl (some 50) S.fKnown [(tm 49)],mk (some 51) (.convert S.tU32 S.tInt (tm 50)),mk (some 52) (.move (ki .i64 0))]
def B0 (S:SN):List Oper:=[mk (some 53) (.binOp .lss S.tInt (tm 52) (tm 51) 0)]
def Bz (_S:SN):List Oper:=[mk (some 54) (.move (tm 52)),mk (some 14) (.assign (tm 54))]
def wx (S:SN):List Oper:=[mk (some 55) (.move (tm 0)),bi (some 56) .len [(tm 55)] [S.tFs] S.tInt,mk (some 57) (.move (ki .i64 0))]
def wv (S:SN):List Oper:=[mk (some 58) (.binOp .lss S.tInt (tm 57) (tm 56) 0)]
def wu (S:SN):List Oper:=[mk (some 59) (.move (tm 57)),mk (some 60) (.indexAddr S.tFs (tm 55) (tm 57)),mk (some 61) (.load S.tF (tm 60)),mk (some 16) (.alloc S.tF),mk (some 15) (.assign (tm 59)),mk none (.store S.tF (tm 16) (tm 61))]
def s5 (S:SN):List Oper:=[mk (some 62) (.fieldAddr S.tF (tm 16) 4),mk (some 63) (.load S.tInt (tm 62)),mk (some 64) (.move (tm 14)),mk (some 65) (.binOp .eql S.tInt (tm 63) (tm 64) 0),mk (some 66) (.move (tm 65)),gd 67 (.load S.tF (tm 16)) 4 true,gd 68 (.load S.tT (tm 7)) 4 true,gd 69 (.move (tm 15)) 4 true,gd 70 (.call ⟨.value (.func S.fAt),#[(tm 68),(tm 69)],#[]⟩) 4 true,gd 71 (.call ⟨.value (.func S.fUsual),#[(tm 67),(tm 70)],#[]⟩) 4 true,gd 72 (.unOp .not S.tB (tm 71)) 4 true,mk (some 73) (.pick (tm 66) (tm 72) (.const (.bool false)))]
def ws (S:SN):List Oper:=[mk (some 74) (.load S.tF (tm 16)),mk (some 75) (.move (tm 1)),mk (some 76) (.move (tm 2)),mk (some 77) (.load S.tT (tm 7)),mk (some 78) (.move (tm 15)),cl (some 79) S.fAt [(tm 77),(tm 78)],cl (some 80) S.fField [(tm 74),(tm 75),(tm 76),(tm 79)],mk (some 17) (.assign (tm 80))]
def wq (S:SN):List Oper:=[mk (some 81) (.move (tm 10)),mk (some 82) (.move (tm 14)),mk (some 83) (.convert S.tInt S.tU64 (tm 82)),cl (some 84) S.fUv [(tm 83)],bi (some 85) .append [(tm 81),(tm 84)] [S.tSl,S.tSl] S.tSl,mk (some 86) (.move (tm 17)),bi (some 87) .len [(tm 86)] [S.tSl] S.tInt,mk (some 88) (.convert S.tInt S.tU64 (tm 87)),cl (some 89) S.fUv [(tm 88)],bi (some 90) .append [(tm 85),(tm 89)] [S.tSl,S.tSl] S.tSl,mk (some 91) (.move (tm 17)),bi (some 92) .append [(tm 90),(tm 91)] [S.tSl,S.tSl] S.tSl,mk (some 10) (.assign (tm 92))]
def wo (S:SN):List Oper:=[mk (some 93) (.move (tm 11)),mk (some 94) (.binOp .add S.tInt (tm 93) (ki .i64 1) 0),mk (some 11) (.assign (tm 94))]
def s4 (S:SN):List Oper:=[mk (some 95) (.binOp .add S.tInt (tm 57) (ki .i64 1) 0),mk (some 57) (.move (tm 95))]
def By (S:SN):List Oper:=[mk (some 96) (.binOp .add S.tInt (tm 52) (ki .i64 1) 0),mk (some 52) (.move (tm 96))]
def Fs (S:SN):List Oper:=[mk (some 97) (.move (tm 0)),mk (some 98) (.fieldAddr S.tT (tm 7) 4),mk (some 99) (.load S.tGs (tm 98)),cl (some 100) S.fUnk [(tm 97),(tm 99)],bi (some 101) .len [(tm 100)] [S.tGs] S.tInt,mk (some 102) (.move (ki .i64 0))]
def Bw (S:SN):List Oper:=[mk (some 103) (.binOp .lss S.tInt (tm 102) (tm 101) 0)]
def Bv (S:SN):List Oper:=[mk (some 104) (.indexAddr S.tGs (tm 100) (tm 102)),mk (some 105) (.load S.tG (tm 104)),mk (some 19) (.alloc S.tG),mk none (.store S.tG (tm 19) (tm 105))]
def Bu (S:SN):List Oper:=[mk (some 106) (.fieldAddr S.tG (tm 19) 1),mk (some 107) (.load S.tSl (tm 106)),cl (some 108) S.fWhole [(tm 107)],mk (some 20) (.assign (tm 108))]
def Bt (S:SN):List Oper:=[mk (some 109) (.move (tm 10)),mk (some 110) (.fieldAddr S.tG (tm 19) 0),mk (some 111) (.load S.tU32 (tm 110)),mk (some 112) (.convert S.tU32 S.tU64 (tm 111)),cl (some 113) S.fUv [(tm 112)],bi (some 114) .append [(tm 109),(tm 113)] [S.tSl,S.tSl] S.tSl,mk (some 115) (.move (tm 20)),bi (some 116) .len [(tm 115)] [S.tSl] S.tInt,mk (some 117) (.convert S.tInt S.tU64 (tm 116)),cl (some 118) S.fUv [(tm 117)],bi (some 119) .append [(tm 114),(tm 118)] [S.tSl,S.tSl] S.tSl,mk (some 120) (.move (tm 20)),bi (some 121) .append [(tm 119),(tm 120)] [S.tSl,S.tSl] S.tSl,mk (some 10) (.assign (tm 121))]
def Br (S:SN):List Oper:=[mk (some 122) (.move (tm 11)),mk (some 123) (.binOp .add S.tInt (tm 122) (ki .i64 1) 0),mk (some 11) (.assign (tm 123))]
def Bq (S:SN):List Oper:=[mk (some 124) (.binOp .add S.tInt (tm 102) (ki .i64 1) 0),mk (some 102) (.move (tm 124))]
def Fr (S:SN):List Oper:=[mk (some 125) (.move (tm 9)),mk (some 126) (.move (tm 11)),mk (some 127) (.convert S.tInt S.tU64 (tm 126)),cl (some 128) S.fUv [(tm 127)],bi (some 129) .append [(tm 125),(tm 128)] [S.tSl,S.tSl] S.tSl,mk (some 130) (.move (tm 10)),bi (some 131) .append [(tm 129),(tm 130)] [S.tSl,S.tSl] S.tSl,mk (some 8) (.assign (tm 131))]
def csPt (S:SN):Code:=
 (.seq (rg (Hp S))
 (.seq (rg (Ho S))
 (.seq (rg (Hn S))
 (.seq (.seq (rg (Ef S))
  (.block 0 (.loop (.seq (rg (Ee S))
  (.seq (.cond (tm 24) .skip
   (.exit 0))
  (.seq (.block 1 (.seq (rg (Ed S))
   (.seq (rg (Ec S))
   (.cond (tm 35) (.region 1 (Bp S).toArray true)
   .skip))))
  (rg (Bo S))))))))
 (.seq (.seq (rg (Hm S))
  (.cond (tm 47) (.seq (rg (Fu S))
   .ret)
  .skip))
 (.seq (.seq (rg (Ft S))
  (.block 2 (.loop (.seq (rg (B0 S))
  (.seq (.cond (tm 53) .skip
   (.exit 2))
  (.seq (.block 3 (.seq (rg (Bz S))
   (.seq (rg (wx S))
   (.block 4 (.loop (.seq (rg (wv S))
   (.seq (.cond (tm 58) .skip
    (.exit 4))
   (.seq (.block 5 (.seq (rg (wu S))
    (.seq (.region 2 (s5 S).toArray true)
    (.cond (tm 73) (.seq (.region 1 (ws S).toArray true)
     (.seq (rg (wq S))
     (rg (wo S))))
    .skip))))
   (rg (s4 S))))))))))
  (rg (By S))))))))
 (.seq (.seq (rg (Fs S))
  (.block 6 (.loop (.seq (rg (Bw S))
  (.seq (.cond (tm 103) .skip
   (.exit 6))
  (.seq (.block 7 (.seq (rg (Bv S))
   (.seq (rg (Bu S))
   (.seq (rg (Bt S))
   (rg (Br S))))))
  (rg (Bq S))))))))
 (.seq (rg (Fr S))
 .ret))))))))
def H1 (S:SN):List Oper:=[mk (some 2) (.box S.tF (tm 0)),mk (some 4) (.assign (.const (.bool false)))]
def H0 (S:SN):List Oper:=[mk (some 5) (.fieldAddr S.tF (tm 2) 1),mk (some 6) (.load S.tInt (tm 5)),mk (some 7) (.move (tm 1)),mk (some 8) (.binOp .leq S.tInt (tm 6) (tm 7) 0),mk (some 9) (.move (tm 8)),gd 10 (.fieldAddr S.tF (tm 2) 2) 4 true,gd 11 (.load S.tInt (tm 10)) 4 true,gd 12 (.binOp .lss S.tInt (tm 11) (ki .i64 0) 0) 4 true,gd 13 (.move (tm 12)) 4 true,gd 14 (.move (tm 1)) 8 false,gd 15 (.fieldAddr S.tF (tm 2) 2) 8 false,gd 16 (.load S.tInt (tm 15)) 8 false,gd 17 (.binOp .leq S.tInt (tm 14) (tm 16) 0) 8 false,gd 18 (.pick (tm 13) (.const (.bool true)) (tm 17)) 4 true,mk (some 19) (.pick (tm 9) (tm 18) (.const (.bool false))),mk (some 4) (.assign (tm 19))]
def csHs (S:SN):Code:=
 (.seq (rg (H1 S))
 (.seq (rg (H0 S))
 .ret))
def H7 (S:SN):List Oper:=[mk (some 4) (.box S.tF (tm 0)),mk (some 7) (.box S.tT (tm 3)),mk (some 8) (.assign (.const bR))]
def H6 (S:SN):List Oper:=[mk (some 13) (.load S.tF (tm 4)),mk (some 14) (.move (tm 1)),mk (some 15) (.load S.tT (tm 7)),cl (some 16) S.fNull [(tm 13),(tm 14),(tm 15)],mk (some 9) (.assign (tm 16))]
def H5 (S:SN):List Oper:=[mk (some 17) (.fieldAddr S.tF (tm 4) 0),mk (some 18) (.load S.tInt (tm 17)),mk (some 19) (.binOp .eql S.tInt (tm 18) (ki .i64 11) 0)]
def H4 (S:SN):List Oper:=[mk (some 20) (.fieldAddr S.tT (tm 7) 3),mk (some 21) (.load S.tTs (tm 20)),cl (some 22) S.fThings [(tm 21)],mk (some 10) (.assign (tm 22))]
def H3 (_S:SN):List Oper:=[mk (some 23) (.move (tm 9))]
def H2 (_S:SN):List Oper:=[mk (some 10) (.assign (.const bR))]
def Ei (S:SN):List Oper:=[mk (some 24) (.move (tm 2)),mk (some 25) (.move (tm 9)),mk (some 26) (.move (tm 10)),bi (some 27) .len [(tm 26)] [S.tTs] S.tInt,cl (some 28) S.fCnt [(tm 24),(tm 25),(tm 27),(ki .i64 4)],mk (some 11) (.assign (tm 28))]
def B7 (S:SN):List Oper:=[mk (some 29) (.move (tm 10)),bi (some 30) .len [(tm 29)] [S.tTs] S.tInt,mk (some 31) (.move (ki .i64 0))]
def B6 (S:SN):List Oper:=[mk (some 32) (.binOp .lss S.tInt (tm 31) (tm 30) 0)]
def B5 (_S:SN):List Oper:=[mk (some 33) (.move (tm 31)),mk (some 12) (.assign (tm 33))]
def wF (S:SN):List Oper:=[mk (some 34) (.move (tm 11)),mk (some 35) (.fieldAddr S.tF (tm 4) 6),mk (some 36) (.load S.tInt (tm 35)),mk (some 37) (.fieldAddr S.tF (tm 4) 7),mk (some 38) (.load S.tFs (tm 37)),mk (some 39) (.move (tm 1)),mk (some 40) (.move (tm 2)),mk (some 41) (.move (tm 10)),mk (some 42) (.move (tm 12)),mk (some 43) (.indexAddr S.tTs (tm 41) (tm 42)),mk (some 44) (.load S.tT (tm 43)),cl (some 45) S.fVal [(tm 36),(tm 38),(.const (.bool false)),(tm 39),(tm 40),(tm 44)],bi (some 46) .append [(tm 34),(tm 45)] [S.tSl,S.tSl] S.tSl,mk (some 11) (.assign (tm 46))]
def wD (S:SN):List Oper:=[mk (some 47) (.binOp .add S.tInt (tm 31) (ki .i64 1) 0),mk (some 31) (.move (tm 47))]
def wB (_S:SN):List Oper:=[mk (some 48) (.move (tm 11)),mk (some 8) (.assign (tm 48))]
def BB (S:SN):List Oper:=[mk (some 49) (.fieldAddr S.tF (tm 4) 0),mk (some 50) (.load S.tInt (tm 49)),mk (some 51) (.binOp .eql S.tInt (tm 50) (ki .i64 10) 0),mk (some 52) (.move (tm 51)),gd 53 (.fieldAddr S.tF (tm 4) 3) 3 true,gd 54 (.load S.tInt (tm 53)) 3 true,gd 55 (.binOp .geq S.tInt (tm 54) (ki .i64 0) 0) 3 true,mk (some 56) (.pick (tm 52) (tm 55) (.const (.bool false)))]
def BA (_S:SN):List Oper:=[mk (some 57) (.move (tm 9))]
def B9 (S:SN):List Oper:=[cl (some 58) S.fFix [(ki .i64 (-1)),(ki .i64 1)],mk (some 8) (.assign (tm 58))]
def B8 (S:SN):List Oper:=[cl (some 59) S.fFix [(ki .i64 1),(ki .i64 1)],mk (some 60) (.fieldAddr S.tF (tm 4) 7),mk (some 61) (.load S.tFs (tm 60)),mk (some 62) (.move (tm 1)),mk (some 63) (.move (tm 2)),mk (some 64) (.load S.tT (tm 7)),cl (some 65) S.fPart [(tm 61),(tm 62),(tm 63),(tm 64)],bi (some 66) .append [(tm 59),(tm 65)] [S.tSl,S.tSl] S.tSl,mk (some 8) (.assign (tm 66))]
def wz (S:SN):List Oper:=[mk (some 67) (.fieldAddr S.tF (tm 4) 0),mk (some 68) (.load S.tInt (tm 67)),mk (some 69) (.fieldAddr S.tF (tm 4) 7),mk (some 70) (.load S.tFs (tm 69)),mk (some 71) (.move (tm 9)),mk (some 72) (.move (tm 1)),mk (some 73) (.move (tm 2)),mk (some 74) (.load S.tT (tm 7)),cl (some 75) S.fVal [(tm 68),(tm 70),(tm 71),(tm 72),(tm 73),(tm 74)],mk (some 8) (.assign (tm 75))]
def csFl (S:SN):Code:=
 (.seq (rg (H7 S))
 (.seq (rg (H6 S))
 (.seq (.seq (rg (H5 S))
  (.cond (tm 19) (.seq (rg (H4 S))
   (.seq (.seq (rg (H3 S))
    (.cond (tm 23) (rg (H2 S))
    .skip))
   (.seq (rg (Ei S))
   (.seq (.seq (rg (B7 S))
    (.block 0 (.loop (.seq (rg (B6 S))
    (.seq (.cond (tm 32) .skip
     (.exit 0))
    (.seq (.block 1 (.seq (rg (B5 S))
     (.region 1 (wF S).toArray true)))
    (rg (wD S))))))))
   (.seq (rg (wB S))
   .ret)))))
  .skip))
 (.seq (.seq (rg (BB S))
  (.cond (tm 56) (.seq (.seq (rg (BA S))
    (.cond (tm 57) (.seq (rg (B9 S))
     .ret)
    .skip))
   (.seq (.region 1 (B8 S).toArray true)
   .ret))
  .skip))
 (.seq (rg (wz S))
 .ret)))))
def HR (S:SN):List Oper:=[mk (some 2) (.box S.tT (tm 0)),mk (some 4) (.alloc S.tT)]
def HQ (S:SN):List Oper:=[mk (some 5) (.move (tm 1)),mk (some 6) (.fieldAddr S.tT (tm 2) 3),mk (some 7) (.load S.tTs (tm 6)),bi (some 8) .len [(tm 7)] [S.tTs] S.tInt,mk (some 9) (.binOp .lss S.tInt (tm 5) (tm 8) 0)]
def HP (S:SN):List Oper:=[mk (some 10) (.fieldAddr S.tT (tm 2) 3),mk (some 11) (.load S.tTs (tm 10)),mk (some 12) (.move (tm 1)),mk (some 13) (.indexAddr S.tTs (tm 11) (tm 12)),mk (some 14) (.load S.tT (tm 13)),mk none (.store S.tT (tm 4) (tm 14))]
def HO (S:SN):List Oper:=[mk (some 15) (.build S.tT #[]),mk none (.store S.tT (tm 4) (tm 15))]
def csAt (S:SN):Code:=
 (.seq (rg (HR S))
 (.seq (.seq (rg (HQ S))
  (.cond (tm 9) (.seq (rg (HP S))
   .ret)
  .skip))
 (.seq (rg (HO S))
 .ret)))
def Hz (_S:SN):List Oper:=[mk (some 2) (.assign (ki .u32 0))]
def Hy (_S:SN):List Oper:=[mk (some 3) (.assign (ki .u32 0))]
def Hx (S:SN):List Oper:=[mk (some 6) (.move (tm 0)),bi (some 7) .len [(tm 6)] [S.tFs] S.tInt,mk (some 8) (.move (ki .i64 0))]
def Hw (S:SN):List Oper:=[mk (some 9) (.binOp .lss S.tInt (tm 8) (tm 7) 0)]
def Hv (S:SN):List Oper:=[mk (some 10) (.indexAddr S.tFs (tm 6) (tm 8)),mk (some 11) (.load S.tF (tm 10)),mk (some 5) (.alloc S.tF),mk none (.store S.tF (tm 5) (tm 11))]
def Hu (S:SN):List Oper:=[mk (some 12) (.fieldAddr S.tF (tm 5) 4),mk (some 13) (.load S.tInt (tm 12)),mk (some 14) (.binOp .geq S.tInt (tm 13) (ki .i64 0) 0)]
def Ht (S:SN):List Oper:=[mk (some 15) (.move (tm 3)),mk (some 16) (.fieldAddr S.tF (tm 5) 4),mk (some 17) (.load S.tInt (tm 16)),mk (some 18) (.convert S.tInt S.tU32 (tm 17)),mk (some 19) (.binOp .add S.tU32 (tm 18) (ki .u32 1) 0),bi (some 20) .max [(tm 15),(tm 19)] [S.tU32,S.tU32] S.tU32,mk (some 3) (.assign (tm 20))]
def Eh (S:SN):List Oper:=[mk (some 21) (.binOp .add S.tInt (tm 8) (ki .i64 1) 0),mk (some 8) (.move (tm 21))]
def Eg (_S:SN):List Oper:=[mk (some 22) (.move (tm 3)),mk (some 2) (.assign (tm 22))]
def csKw (S:SN):Code:=
 (.seq (rg (Hz S))
 (.seq (rg (Hy S))
 (.seq (.seq (rg (Hx S))
  (.block 0 (.loop (.seq (rg (Hw S))
  (.seq (.cond (tm 9) .skip
   (.exit 0))
  (.seq (.block 1 (.seq (rg (Hv S))
   (.seq (rg (Hu S))
   (.cond (tm 14) (rg (Ht S))
   .skip))))
  (rg (Eh S))))))))
 (.seq (rg (Eg S))
 .ret))))
def Fj (_S:SN):List Oper:=[mk (some 2) (.assign (.const bR))]
def Fi (_S:SN):List Oper:=[mk (some 3) (.assign (.const bR))]
def Fh (S:SN):List Oper:=[mk (some 4) (.move (tm 0)),mk (some 5) (.binOp .gtr S.tU64 (tm 4) (ki .u64 127) 0)]
def Fg (S:SN):List Oper:=[mk (some 6) (.move (tm 3)),mk (some 7) (.move (tm 0)),mk (some 8) (.binOp .and S.tU64 (tm 7) (ki .u64 127) 0),mk (some 9) (.convert S.tU64 S.tU8 (tm 8)),mk (some 10) (.binOp .or S.tU8 (tm 9) (ki .u8 128) 0),mk (some 11) (.buildSlice S.tSl 1 #[(0,(tm 10))]),bi (some 12) .append [(tm 6),(tm 11)] [S.tSl,S.tSl] S.tSl,mk (some 3) (.assign (tm 12))]
def Ff (S:SN):List Oper:=[mk (some 13) (.move (tm 0)),mk (some 14) (.binOp .shr S.tU64 (tm 13) (ki .u64 7) 0),mk (some 0) (.assign (tm 14))]
def Fe (S:SN):List Oper:=[mk (some 15) (.move (tm 3)),mk (some 16) (.move (tm 0)),mk (some 17) (.convert S.tU64 S.tU8 (tm 16)),mk (some 18) (.buildSlice S.tSl 1 #[(0,(tm 17))]),bi (some 19) .append [(tm 15),(tm 18)] [S.tSl,S.tSl] S.tSl,mk (some 2) (.assign (tm 19))]
def csUvr (S:SN):Code:=
 (.seq (rg (Fj S))
 (.seq (rg (Fi S))
 (.seq (.block 0 (.loop (.seq (.seq (rg (Fh S))
   (.cond (tm 5) .skip
   (.exit 0)))
  (.block 1 (.seq (rg (Fg S))
  (rg (Ff S)))))))
 (.seq (rg (Fe S))
 .ret))))
def Hj (_S:SN):List Oper:=[mk (some 4) (.assign (.const bR))]
def Hi (S:SN):List Oper:=[mk (some 11) (.move (tm 0)),cl (some 12) S.fKnown [(tm 11)],mk (some 5) (.assign (tm 12))]
def Hh (_S:SN):List Oper:=[mk (some 6) (.assign (.const bR))]
def Hg (S:SN):List Oper:=[mk (some 13) (.move (tm 1)),mk (some 14) (.move (tm 1)),bi (some 15) .len [(tm 14)] [S.tGs] S.tInt,bi (some 16) .min [(tm 15),(ki .i64 32767)] [S.tInt,S.tInt] S.tInt,mk (some 17) (.slice S.tGs (tm 13) none (some (tm 16)) none),bi (some 18) .len [(tm 17)] [S.tGs] S.tInt,mk (some 19) (.move (ki .i64 0))]
def Hf (S:SN):List Oper:=[mk (some 20) (.binOp .lss S.tInt (tm 19) (tm 18) 0)]
def He (S:SN):List Oper:=[mk (some 21) (.indexAddr S.tGs (tm 17) (tm 19)),mk (some 22) (.load S.tG (tm 21)),mk (some 8) (.alloc S.tG),mk none (.store S.tG (tm 8) (tm 22))]
def Hc (_S:SN):List Oper:=[mk (some 9) (.assign (ki .i64 0))]
def Bg (S:SN):List Oper:=[mk (some 23) (.move (tm 9)),mk (some 24) (.move (tm 6)),bi (some 25) .len [(tm 24)] [S.tGs] S.tInt,mk (some 26) (.binOp .lss S.tInt (tm 23) (tm 25) 0),mk (some 27) (.move (tm 26)),gd 28 (.move (tm 6)) 4 true,gd 29 (.move (tm 9)) 4 true,gd 30 (.indexAddr S.tGs (tm 28) (tm 29)) 4 true,gd 31 (.fieldAddr S.tG (tm 30) 0) 4 true,gd 32 (.load S.tU32 (tm 31)) 4 true,gd 33 (.fieldAddr S.tG (tm 8) 0) 4 true,gd 34 (.load S.tU32 (tm 33)) 4 true,gd 35 (.binOp .lss S.tU32 (tm 32) (tm 34) 0) 4 true,mk (some 36) (.pick (tm 27) (tm 35) (.const (.bool false)))]
def Eb (S:SN):List Oper:=[mk (some 37) (.move (tm 9)),mk (some 38) (.binOp .add S.tInt (tm 37) (ki .i64 1) 0),mk (some 9) (.assign (tm 38))]
def Bf (S : SN) : List Oper := [mk (some 39) (.fieldAddr S.tG (tm 8) 0), mk (some 40) (.load S.tU32 (tm 39)), mk (some 41) (.move (tm 5)), mk (some 42) (.binOp .lss S.tU32 (tm 40) (tm 41) 0), mk (some 43) (.move (tm 42)), gd 44 (.move (tm 9)) 4 false, gd 45 (.move (tm 6)) 4 false, ⟨(some 46), .call ⟨.builtin .len, #[(tm 45)], #[S.tGs]⟩, S.tInt, "", #[], some (4, false)⟩, gd 47 (.binOp .lss S.tInt (tm 44) (tm 46) 0) 4 false, gd 48 (.move (tm 47)) 4 false, gd 49 (.move (tm 6)) 9 true, gd 50 (.move (tm 9)) 9 true, gd 51 (.indexAddr S.tGs (tm 49) (tm 50)) 9 true, gd 52 (.fieldAddr S.tG (tm 51) 0) 9 true, gd 53 (.load S.tU32 (tm 52)) 9 true, gd 54 (.fieldAddr S.tG (tm 8) 0) 9 true, gd 55 (.load S.tU32 (tm 54)) 9 true, gd 56 (.binOp .eql S.tU32 (tm 53) (tm 55) 0) 9 true, gd 57 (.pick (tm 48) (tm 56) (.const (.bool false))) 4 false, mk (some 58) (.pick (tm 43) (.const (.bool true)) (tm 57))]
def Bn (S:SN):List Oper:=[mk (some 59) (.move (tm 6)),mk (some 60) (.build S.tG #[]),mk (some 61) (.buildSlice S.tGs 1 #[(0,(tm 60))]),bi (some 62) .append [(tm 59),(tm 61)] [S.tGs,S.tGs] S.tGs,mk (some 6) (.assign (tm 62))]
def Bm (S:SN):List Oper:=[mk (some 63) (.move (tm 6)),bi (some 64) .len [(tm 63)] [S.tGs] S.tInt,mk (some 65) (.binOp .sub S.tInt (tm 64) (ki .i64 1) 0),mk (some 10) (.assign (tm 65))]
def Bl (S:SN):List Oper:=[mk (some 66) (.move (tm 10)),mk (some 67) (.move (tm 9)),mk (some 68) (.binOp .gtr S.tInt (tm 66) (tm 67) 0)]
def Bk (S:SN):List Oper:=[mk (some 71) (.move (tm 6)),mk (some 72) (.move (tm 10)),mk (some 73) (.move (tm 6)),mk (some 74) (.move (tm 10)),mk (some 75) (.binOp .sub S.tInt (tm 74) (ki .i64 1) 0),mk (some 76) (.indexAddr S.tGs (tm 73) (tm 75)),mk (some 77) (.load S.tG (tm 76)),mk (some 78) (.indexAddr S.tGs (tm 71) (tm 72)),mk none (.store S.tG (tm 78) (tm 77))]
def Bj (S:SN):List Oper:=[mk (some 69) (.move (tm 10)),mk (some 70) (.binOp .sub S.tInt (tm 69) (ki .i64 1) 0),mk (some 10) (.assign (tm 70))]
def Bi (S:SN):List Oper:=[mk (some 79) (.move (tm 6)),mk (some 80) (.move (tm 9)),mk (some 81) (.load S.tG (tm 8)),mk (some 82) (.indexAddr S.tGs (tm 79) (tm 80)),mk none (.store S.tG (tm 82) (tm 81))]
def Bh (S:SN):List Oper:=[mk (some 83) (.binOp .add S.tInt (tm 19) (ki .i64 1) 0),mk (some 19) (.move (tm 83))]
def Fq (_S:SN):List Oper:=[mk (some 84) (.move (tm 6)),mk (some 4) (.assign (tm 84))]
def csUn (S:SN):Code:=
 (.seq (rg (Hj S))
 (.seq (rg (Hi S))
 (.seq (rg (Hh S))
 (.seq (.seq (rg (Hg S))
  (.block 0 (.loop (.seq (rg (Hf S))
  (.seq (.cond (tm 20) .skip
   (.exit 0))
  (.seq (.block 1 (.seq (rg (He S))
   (.seq (rg (Hc S))
   (.seq (.block 2 (.loop (.seq (.seq (.region 2 (Bg S).toArray true)
     (.cond (tm 36) .skip
     (.exit 2)))
    (.block 3 (rg (Eb S))))))
   (.seq (.seq (.region 2 (Bf S).toArray true)
    (.cond (tm 58) (.exit 1)
    .skip))
   (.seq (rg (Bn S))
   (.seq (.seq (rg (Bm S))
    (.block 4 (.loop (.seq (.seq (rg (Bl S))
     (.cond (tm 68) .skip
     (.exit 4)))
    (.seq (.block 5 (rg (Bk S)))
    (rg (Bj S)))))))
   (rg (Bi S)))))))))
  (rg (Bh S))))))))
 (.seq (rg (Fq S))
 .ret)))))
def GJ (_S:SN):List Oper:=[mk (some 2) (.assign (.const bR))]
def GI (S:SN):List Oper:=[mk (some 3) (.move (tm 0)),mk (some 4) (.move (tm 0)),bi (some 5) .len [(tm 4)] [S.tSl] S.tInt,bi (some 6) .min [(tm 5),(ki .i64 32767)] [S.tInt,S.tInt] S.tInt,mk (some 7) (.slice S.tSl (tm 3) none (some (tm 6)) none),mk (some 2) (.assign (tm 7))]
def csWh (S:SN):Code:=
 (.seq (rg (GJ S))
 (.seq (rg (GI S))
 .ret))
def Hr (S:SN):List Oper:=[mk (some 3) (.box S.tF (tm 0)),mk (some 5) (.box S.tT (tm 2)),mk (some 6) (.assign (.const (.bool false)))]
def Hq (S:SN):List Oper:=[mk (some 7) (.fieldAddr S.tT (tm 5) 2),mk (some 8) (.load S.tB (tm 7)),mk (some 9) (.move (tm 8)),gd 10 (.fieldAddr S.tF (tm 3) 3) 2 true,gd 11 (.load S.tInt (tm 10)) 2 true,gd 12 (.binOp .geq S.tInt (tm 11) (ki .i64 0) 0) 2 true,mk (some 13) (.pick (tm 9) (tm 12) (.const (.bool false))),mk (some 14) (.move (tm 13)),gd 15 (.move (tm 1)) 7 true,gd 16 (.fieldAddr S.tF (tm 3) 3) 7 true,gd 17 (.load S.tInt (tm 16)) 7 true,gd 18 (.binOp .geq S.tInt (tm 15) (tm 17) 0) 7 true,mk (some 19) (.pick (tm 14) (tm 18) (.const (.bool false))),mk (some 6) (.assign (tm 19))]
def csNu (S:SN):Code:=
 (.seq (rg (Hr S))
 (.seq (rg (Hq S))
 .ret))
def Hl (_S:SN):List Oper:=[mk (some 2) (.assign (.const bR))]
def Hk (S:SN):List Oper:=[mk (some 3) (.move (tm 0)),mk (some 4) (.move (tm 0)),bi (some 5) .len [(tm 4)] [S.tTs] S.tInt,bi (some 6) .min [(tm 5),(ki .i64 32767)] [S.tInt,S.tInt] S.tInt,mk (some 7) (.slice S.tTs (tm 3) none (some (tm 6)) none),mk (some 2) (.assign (tm 7))]
def csTh (S:SN):Code:=
 (.seq (rg (Hl S))
 (.seq (rg (Hk S))
 .ret))
def HN (_S:SN):List Oper:=[mk (some 8) (.assign (.const bR))]
def HM (_S:SN):List Oper:=[mk (some 10) (.move (tm 0)),mk (some 11) (.move (tm 10)),gd 12 (.move (tm 1)) 1 true,mk (some 13) (.pick (tm 11) (tm 12) (.const (.bool false))),mk (some 9) (.assign (tm 13))]
def HL (S:SN):List Oper:=[mk (some 14) (.buildSlice S.tSl 1 #[(0,(ki .u8 0))]),mk (some 8) (.assign (tm 14))]
def HK (_S:SN):List Oper:=[mk (some 16) (.move (tm 0)),mk (some 15) (.assign (tm 16))]
def HJ (S:SN):List Oper:=[mk (some 17) (.move (tm 2)),mk (some 18) (.convert S.tInt S.tU64 (tm 17)),mk (some 19) (.binOp .add S.tU64 (tm 18) (ki .u64 1) 0),cl (some 20) S.fUv [(tm 19)],mk (some 8) (.assign (tm 20))]
def HI (_S:SN):List Oper:=[mk (some 22) (.move (tm 1)),mk (some 21) (.assign (tm 22))]
def HH (S:SN):List Oper:=[mk (some 23) (.move (tm 3)),cl (some 24) S.fFix [(ki .i64 (-1)),(tm 23)],mk (some 8) (.assign (tm 24))]
def HG (S:SN):List Oper:=[mk (some 25) (.move (tm 2)),mk (some 26) (.move (tm 3)),cl (some 27) S.fFix [(tm 25),(tm 26)],mk (some 8) (.assign (tm 27))]
def csCn (S:SN):Code:=
 (.seq (rg (HN S))
 (.seq (.block 0 (.seq (rg (HM S))
  (.cond (tm 9) (.seq (rg (HL S))
   .ret)
  (.seq (rg (HK S))
  (.cond (tm 15) (.seq (rg (HJ S))
   .ret)
  (.seq (rg (HI S))
  (.cond (tm 21) (.seq (rg (HH S))
   .ret)
  .skip)))))))
 (.seq (rg (HG S))
 .ret)))
def GV (S:SN):List Oper:=[mk (some 11) (.box S.tT (tm 5)),mk (some 12) (.assign (.const bR))]
def GU (_S:SN):List Oper:=[mk (some 16) (.move (tm 0))]
def GT (S:SN):List Oper:=[mk (some 18) (.binOp .eql S.tInt (tm 16) (ki .i64 0) 0),mk (some 17) (.assign (tm 18))]
def GS (S:SN):List Oper:=[mk (some 19) (.fieldAddr S.tT (tm 11) 0),mk (some 20) (.load S.tI64 (tm 19)),mk (some 21) (.binOp .and S.tI64 (tm 20) (ki .i64 1) 0),mk (some 22) (.convert S.tI64 S.tU8 (tm 21)),mk (some 23) (.buildSlice S.tSl 1 #[(0,(tm 22))]),mk (some 12) (.assign (tm 23))]
def GR (S:SN):List Oper:=[mk (some 25) (.binOp .eql S.tInt (tm 16) (ki .i64 7) 0),mk (some 24) (.assign (tm 25))]
def DV (S:SN):List Oper:=[mk (some 26) (.makeSlice S.tSl (ki .i64 16) (ki .i64 16)),mk (some 13) (.assign (tm 26))]
def DU (S:SN):List Oper:=[mk (some 27) (.move (tm 13)),mk (some 28) (.fieldAddr S.tT (tm 11) 1),mk (some 29) (.load S.tSl (tm 28)),bi (some 30) .copy [(tm 27),(tm 29)] [S.tSl,S.tSl] S.tInt]
def DS (_S:SN):List Oper:=[mk (some 31) (.move (tm 13)),mk (some 12) (.assign (tm 31))]
def GQ (S:SN):List Oper:=[mk (some 33) (.binOp .eql S.tInt (tm 16) (ki .i64 8) 0),mk (some 32) (.assign (tm 33))]
def DR (S:SN):List Oper:=[mk (some 34) (.fieldAddr S.tT (tm 11) 1),mk (some 35) (.load S.tSl (tm 34)),cl (some 36) S.fWhole [(tm 35)],mk (some 14) (.assign (tm 36))]
def AT (_S:SN):List Oper:=[mk (some 37) (.move (tm 2))]
def AS (_S:SN):List Oper:=[mk (some 14) (.assign (.const bR))]
def wm (S:SN):List Oper:=[mk (some 38) (.move (tm 4)),mk (some 39) (.move (tm 2)),mk (some 40) (.move (tm 14)),bi (some 41) .len [(tm 40)] [S.tSl] S.tInt,cl (some 42) S.fCnt [(tm 38),(tm 39),(tm 41),(ki .i64 2)],mk (some 43) (.move (tm 14)),bi (some 44) .append [(tm 42),(tm 43)] [S.tSl,S.tSl] S.tSl,mk (some 12) (.assign (tm 44))]
def Fd (S:SN):List Oper:=[mk (some 46) (.binOp .eql S.tInt (tm 16) (ki .i64 9) 0),mk (some 45) (.assign (tm 46))]
def AR (S:SN):List Oper:=[mk (some 47) (.fieldAddr S.tT (tm 11) 1),mk (some 48) (.load S.tSl (tm 47)),cl (some 49) S.fWhole [(tm 48)],mk (some 15) (.assign (tm 49))]
def AQ (_S:SN):List Oper:=[mk (some 50) (.move (tm 2))]
def AP (_S:SN):List Oper:=[mk (some 15) (.assign (.const bR))]
def wl (S:SN):List Oper:=[mk (some 51) (.move (tm 4)),mk (some 52) (.move (tm 2)),mk (some 53) (.move (tm 15)),bi (some 54) .len [(tm 53)] [S.tSl] S.tInt,cl (some 55) S.fCnt [(tm 51),(tm 52),(tm 54),(ki .i64 4)],mk (some 56) (.move (tm 15)),bi (some 57) .append [(tm 55),(tm 56)] [S.tSl,S.tSl] S.tSl,mk (some 12) (.assign (tm 57))]
def Fc (S:SN):List Oper:=[mk (some 59) (.binOp .eql S.tInt (tm 16) (ki .i64 10) 0),mk (some 58) (.assign (tm 59))]
def Fb (S:SN):List Oper:=[mk (some 60) (.move (tm 1)),mk (some 61) (.move (tm 3)),mk (some 62) (.move (tm 4)),mk (some 63) (.load S.tT (tm 11)),cl (some 64) S.fPart [(tm 60),(tm 61),(tm 62),(tm 63)],mk (some 12) (.assign (tm 64))]
def Fa (S:SN):List Oper:=[mk (some 65) (.fieldAddr S.tT (tm 11) 0),mk (some 66) (.load S.tI64 (tm 65)),mk (some 67) (.move (tm 0)),cl (some 68) S.fWid [(tm 67)],cl (some 69) S.fFix [(tm 66),(tm 68)],mk (some 12) (.assign (tm 69))]
def csVa (S:SN):Code:=
 (.seq (rg (GV S))
 (.seq (.seq (rg (GU S))
  (.block 0 (.seq (rg (GT S))
  (.cond (tm 17) (.seq (rg (GS S))
   .ret)
  (.seq (rg (GR S))
  (.cond (tm 24) (.seq (rg (DV S))
   (.seq (rg (DU S))
   (.seq (rg (DS S))
   .ret)))
  (.seq (rg (GQ S))
  (.cond (tm 32) (.seq (rg (DR S))
   (.seq (.seq (rg (AT S))
    (.cond (tm 37) (rg (AS S))
    .skip))
   (.seq (rg (wm S))
   .ret)))
  (.seq (rg (Fd S))
  (.cond (tm 45) (.seq (rg (AR S))
   (.seq (.seq (rg (AQ S))
    (.cond (tm 50) (rg (AP S))
    .skip))
   (.seq (rg (wl S))
   .ret)))
  (.seq (rg (Fc S))
  (.cond (tm 58) (.seq (rg (Fb S))
   .ret)
  .skip))))))))))))
 (.seq (.region 1 (Fa S).toArray true)
 .ret)))
def HE (_S:SN):List Oper:=[mk (some 4) (.assign (.const bR))]
def HD (_S:SN):List Oper:=[mk (some 5) (.assign (.const bR))]
def HC (S:SN):List Oper:=[mk (some 7) (.move (tm 1)),mk (some 8) (.binOp .sub S.tInt (tm 7) (ki .i64 1) 0),mk (some 6) (.assign (tm 8))]
def HB (S:SN):List Oper:=[mk (some 9) (.move (tm 6)),mk (some 10) (.binOp .geq S.tInt (tm 9) (ki .i64 0) 0)]
def HA (S:SN):List Oper:=[mk (some 13) (.move (tm 5)),mk (some 14) (.move (tm 0)),mk (some 15) (.move (tm 6)),mk (some 16) (.binOp .mul S.tInt (ki .i64 8) (tm 15) 0),mk (some 17) (.binOp .shr S.tI64 (tm 14) (tm 16) 0),mk (some 18) (.convert S.tI64 S.tU8 (tm 17)),mk (some 19) (.buildSlice S.tSl 1 #[(0,(tm 18))]),bi (some 20) .append [(tm 13),(tm 19)] [S.tSl,S.tSl] S.tSl,mk (some 5) (.assign (tm 20))]
def H9 (S:SN):List Oper:=[mk (some 11) (.move (tm 6)),mk (some 12) (.binOp .sub S.tInt (tm 11) (ki .i64 1) 0),mk (some 6) (.assign (tm 12))]
def H8 (_S:SN):List Oper:=[mk (some 21) (.move (tm 5)),mk (some 4) (.assign (tm 21))]
def csFi (S:SN):Code:=
 (.seq (rg (HE S))
 (.seq (rg (HD S))
 (.seq (.seq (rg (HC S))
  (.block 0 (.loop (.seq (.seq (rg (HB S))
   (.cond (tm 10) .skip
   (.exit 0)))
  (.seq (.block 1 (rg (HA S)))
  (rg (H9 S)))))))
 (.seq (rg (H8 S))
 .ret))))
def GP (_S:SN):List Oper:=[mk (some 2) (.assign (ki .i64 0))]
def GO (_S:SN):List Oper:=[mk (some 3) (.move (tm 0))]
def GN (S:SN):List Oper:=[mk (some 5) (.binOp .eql S.tInt (tm 3) (ki .i64 1) 0),mk (some 4) (.assign (tm 5))]
def GM (_S:SN):List Oper:=[mk (some 2) (.assign (ki .i64 1))]
def GL (S:SN):List Oper:=[mk (some 7) (.binOp .eql S.tInt (tm 3) (ki .i64 2) 0),mk (some 6) (.assign (tm 7))]
def GK (S:SN):List Oper:=[mk (some 8) (.binOp .eql S.tInt (tm 3) (ki .i64 5) 0),mk (some 6) (.assign (tm 8))]
def DQ (_S:SN):List Oper:=[mk (some 2) (.assign (ki .i64 2))]
def DP (S:SN):List Oper:=[mk (some 10) (.binOp .eql S.tInt (tm 3) (ki .i64 3) 0),mk (some 9) (.assign (tm 10))]
def DO (_S:SN):List Oper:=[mk (some 2) (.assign (ki .i64 4))]
def DN (_S:SN):List Oper:=[mk (some 2) (.assign (ki .i64 8))]
def csWd (S:SN):Code:=
 (.seq (rg (GP S))
 (.seq (.seq (rg (GO S))
  (.block 0 (.seq (rg (GN S))
  (.cond (tm 4) (.seq (rg (GM S))
   .ret)
  (.seq (.seq (rg (GL S))
   (.cond (tm 6) .skip
   (rg (GK S))))
  (.cond (tm 6) (.seq (rg (DQ S))
   .ret)
  (.seq (rg (DP S))
  (.cond (tm 9) (.seq (rg (DO S))
   .ret)
  .skip))))))))
 (.seq (rg (DN S))
 .ret)))
def GH (S:SN):List Oper:=[mk (some 3) (.box S.tMs (tm 0)),mk (some 5) (.box S.tT (tm 2)),mk (some 6) (.assign (.const bR))]
def GG (S:SN):List Oper:=[mk (some 7) (.fieldAddr S.tMs (tm 3) 0),mk (some 8) (.load S.tFs (tm 7)),mk (some 9) (.move (tm 1)),mk (some 10) (.fieldAddr S.tMs (tm 3) 1),mk (some 11) (.load S.tInt (tm 10)),mk (some 12) (.binOp .geq S.tInt (tm 11) (ki .i64 0) 0),mk (some 13) (.move (tm 12)),gd 14 (.move (tm 1)) 6 true,gd 15 (.fieldAddr S.tMs (tm 3) 1) 6 true,gd 16 (.load S.tInt (tm 15)) 6 true,gd 17 (.binOp .geq S.tInt (tm 14) (tm 16) 0) 6 true,mk (some 18) (.pick (tm 13) (tm 17) (.const (.bool false))),mk (some 19) (.load S.tT (tm 5)),cl (some 20) S.fPart [(tm 8),(tm 9),(tm 18),(tm 19)],mk (some 6) (.assign (tm 20))]
def csWr (S:SN):Code:=
 (.seq (rg (GH S))
 (.seq (rg (GG S))
 .ret))
def GF (S:SN):List Oper:=[mk (some 1) (.box S.tT (tm 0)),mk (some 2) (.assign (.const (.bool false)))]
def GE (S:SN):List Oper:=[mk (some 3) (.fieldAddr S.tT (tm 1) 1),mk (some 4) (.load S.tSl (tm 3)),bi (some 5) .len [(tm 4)] [S.tSl] S.tInt,mk (some 6) (.binOp .gtr S.tInt (tm 5) (ki .i64 2147483647) 0)]
def GD (_S:SN):List Oper:=[mk (some 2) (.assign (.const (.bool false)))]
def GB (S:SN):List Oper:=[mk (some 7) (.fieldAddr S.tT (tm 1) 3),mk (some 8) (.load S.tTs (tm 7)),bi (some 9) .len [(tm 8)] [S.tTs] S.tInt,mk (some 10) (.binOp .gtr S.tInt (tm 9) (ki .i64 2147483647) 0)]
def GA (_S:SN):List Oper:=[mk (some 2) (.assign (.const (.bool false)))]
def G9 (S:SN):List Oper:=[mk (some 11) (.fieldAddr S.tT (tm 1) 4),mk (some 12) (.load S.tGs (tm 11)),cl (some 13) S.fZ3 [(tm 12)],mk (some 14) (.unOp .not S.tB (tm 13))]
def G8 (_S:SN):List Oper:=[mk (some 2) (.assign (.const (.bool false)))]
def G7 (_S:SN):List Oper:=[mk (some 2) (.assign (.const (.bool true)))]
def csZ2 (S:SN):Code:=
 (.seq (rg (GF S))
 (.seq (.seq (rg (GE S))
  (.cond (tm 6) (.seq (rg (GD S))
   .ret)
  .skip))
 (.seq (.seq (rg (GB S))
  (.cond (tm 10) (.seq (rg (GA S))
   .ret)
  .skip))
 (.seq (.seq (rg (G9 S))
  (.cond (tm 14) (.seq (rg (G8 S))
   .ret)
  .skip))
 (.seq (rg (G7 S))
 .ret)))))
def G6 (_S:SN):List Oper:=[mk (some 2) (.assign (.const (.bool false)))]
def G5 (S:SN):List Oper:=[mk (some 5) (.move (tm 0)),bi (some 6) .len [(tm 5)] [S.tGs] S.tInt,mk (some 7) (.binOp .gtr S.tInt (tm 6) (ki .i64 2147483647) 0)]
def G4 (_S:SN):List Oper:=[mk (some 2) (.assign (.const (.bool false)))]
def G3 (S:SN):List Oper:=[mk (some 8) (.move (tm 0)),bi (some 9) .len [(tm 8)] [S.tGs] S.tInt,mk (some 10) (.move (ki .i64 0))]
def G2 (S:SN):List Oper:=[mk (some 11) (.binOp .lss S.tInt (tm 10) (tm 9) 0)]
def G1 (S:SN):List Oper:=[mk (some 12) (.indexAddr S.tGs (tm 8) (tm 10)),mk (some 13) (.load S.tG (tm 12)),mk (some 4) (.alloc S.tG),mk none (.store S.tG (tm 4) (tm 13))]
def G0 (S:SN):List Oper:=[mk (some 14) (.load S.tG (tm 4)),cl (some 15) S.fZ4 [(tm 14)],mk (some 16) (.unOp .not S.tB (tm 15))]
def Gz (_S:SN):List Oper:=[mk (some 2) (.assign (.const (.bool false)))]
def Gy (S:SN):List Oper:=[mk (some 17) (.binOp .add S.tInt (tm 10) (ki .i64 1) 0),mk (some 10) (.move (tm 17))]
def Gx (_S:SN):List Oper:=[mk (some 2) (.assign (.const (.bool true)))]
def csZ3 (S:SN):Code:=
 (.seq (rg (G6 S))
 (.seq (.seq (rg (G5 S))
  (.cond (tm 7) (.seq (rg (G4 S))
   .ret)
  .skip))
 (.seq (.seq (rg (G3 S))
  (.block 0 (.loop (.seq (rg (G2 S))
  (.seq (.cond (tm 11) .skip
   (.exit 0))
  (.seq (.block 1 (.seq (rg (G1 S))
   (.seq (rg (G0 S))
   (.cond (tm 16) (.seq (rg (Gz S))
    .ret)
   .skip))))
  (rg (Gy S))))))))
 (.seq (rg (Gx S))
 .ret))))
def Gw (S:SN):List Oper:=[mk (some 1) (.box S.tG (tm 0)),mk (some 2) (.assign (.const (.bool false)))]
def Gv (S:SN):List Oper:=[mk (some 3) (.fieldAddr S.tG (tm 1) 1),mk (some 4) (.load S.tSl (tm 3)),bi (some 5) .len [(tm 4)] [S.tSl] S.tInt,mk (some 6) (.binOp .gtr S.tInt (tm 5) (ki .i64 2147483647) 0)]
def Gu (_S:SN):List Oper:=[mk (some 2) (.assign (.const (.bool false)))]
def Gt (_S:SN):List Oper:=[mk (some 2) (.assign (.const (.bool true)))]
def csZ4 (S:SN):Code:=
 (.seq (rg (Gw S))
 (.seq (.seq (rg (Gv S))
  (.cond (tm 6) (.seq (rg (Gu S))
   .ret)
  .skip))
 (.seq (rg (Gt S))
 .ret)))
end
section
open Go
set_option maxRecDepth 100000
structure LN where
 fM:Nat
 fB:Nat
 fV:Nat
 fA:Nat
def If (S:SN)(_N:LN):List Oper:=[mk (some 4) (.box S.tT (tm 1)),mk (some 6) (.assign (.const (.bool false)))]
def Ie (S:SN)(_N:LN):List Oper:=[mk (some 13) (.load S.tT (tm 4)),cl (some 14) S.fZ2 [(tm 13)],mk (some 15) (.unOp .not S.tB (tm 14))]
def Id (_S:SN)(_N:LN):List Oper:=[mk (some 6) (.assign (.const (.bool true)))]
def Ic (_S:SN)(N:LN):List Oper:=[cl (some 16) N.fM [],mk (some 7) (.assign (tm 16))]
def Ib (S:SN)(_N:LN):List Oper:=[mk (some 17) (.move (tm 7)),mk (some 18) (.binOp .lss S.tInt (tm 17) (ki .i64 0) 0)]
def Ia (_S:SN)(_N:LN):List Oper:=[mk (some 6) (.assign (.const (.bool false)))]
def HZ (S:SN)(N:LN):List Oper:=[cl (some 19) N.fB [],mk (some 20) (.move (tm 0)),mk (some 21) (.move (tm 7)),cl (some 22) N.fV [(tm 20),(tm 21)],mk (some 23) (.load S.tT (tm 4)),cl (some 24) S.fWrite [(tm 19),(tm 22),(tm 23)],mk (some 8) (.assign (tm 24))]
def HY (_S:SN)(N:LN):List Oper:=[mk (some 26) (.move (tm 0)),mk (some 27) (.move (tm 7)),cl (some 28) N.fV [(tm 26),(tm 27)],mk (some 29) (.move (tm 8)),cl (some 30) N.fA [(tm 28),(tm 29)],mk (some 25) (.move (tm 30)),mk (some 31) (.extract (tm 25) 0),mk (some 32) (.extract (tm 25) 1),mk (some 9) (.assign (tm 31)),mk (some 10) (.assign (tm 32))]
def HX (S:SN)(_N:LN):List Oper:=[mk (some 33) (.move (tm 8)),bi (some 34) .len [(tm 33)] [S.tSl] S.tInt,mk (some 35) (.binOp .eql S.tInt (tm 34) (ki .i64 0) 0)]
def HW (_S:SN)(_N:LN):List Oper:=[mk (some 36) (.move (tm 10)),mk (some 6) (.assign (tm 36))]
def F3 (S:SN)(N:LN):List Oper:=[mk (some 38) (.move (tm 0)),mk (some 39) (.move (tm 7)),cl (some 40) N.fV [(tm 38),(tm 39)],mk (some 41) (.move (tm 8)),mk (some 42) (.move (tm 2)),mk (some 43) (.convert S.tU16 S.tInt (tm 42)),mk (some 44) (.move (tm 8)),bi (some 45) .len [(tm 44)] [S.tSl] S.tInt,mk (some 46) (.binOp .rem S.tInt (tm 43) (tm 45) 0),mk (some 47) (.slice S.tSl (tm 41) none (some (tm 46)) none),cl (some 48) N.fA [(tm 40),(tm 47)],mk (some 37) (.move (tm 48)),mk (some 49) (.extract (tm 37) 0),mk (some 50) (.extract (tm 37) 1),mk (some 11) (.assign (tm 49)),mk (some 12) (.assign (tm 50))]
def F2 (S:SN)(_N:LN):List Oper:=[mk (some 51) (.move (tm 10)),mk (some 52) (.move (tm 51)),gd 53 (.move (tm 12)) 1 true,gd 54 (.unOp .not S.tB (tm 53)) 1 true,mk (some 55) (.pick (tm 52) (tm 54) (.const (.bool false))),mk (some 6) (.assign (tm 55))]
def cLcu (S:SN)(N:LN):Code:=
 (.seq (rg (If S N))
 (.seq (.seq (rg (Ie S N))
  (.cond (tm 15) (.seq (rg (Id S N))
   .ret)
  .skip))
 (.seq (rg (Ic S N))
 (.seq (.seq (rg (Ib S N))
  (.cond (tm 18) (.seq (rg (Ia S N))
   .ret)
  .skip))
 (.seq (.region 1 (HZ S N).toArray true)
 (.seq (rg (HY S N))
 (.seq (.seq (rg (HX S N))
  (.cond (tm 35) (.seq (rg (HW S N))
   .ret)
  .skip))
 (.seq (.region 2 (F3 S N).toArray true)
 (.seq (rg (F2 S N))
 .ret)))))))))
end
structure TN where
 tTags:Nat
 tM:Nat
 tKs:Nat
 tU32:Nat
 tInt:Nat
 tSl:Nat
 fSort:Nat
 fLess:Nat
 fEach:Nat
 fOne:Nat
 fUv:Nat
def rk (T:TN)(n:Nat):List Oper:=[mk (some n) (.move (tm 0)),mk (some (n+1)) (.nilCheck (tm n)),mk (some (n+2)) (.fieldAddr T.tTags (tm (n+1)) 0),mk (some (n+3)) (.load T.tM (tm (n+2)))]
def uY (T:TN):Code:=sq [rg [mk (some 27) (.entry (tm 24)),mk (some 28) (.extract (tm 27) 0),mk (some 5) (.assign (tm 28))],
 rg [mk (some 29) (.load T.tKs (tm 4)),mk (some 30) (.move (tm 5)),mk (some 31) (.buildSlice T.tKs 1 #[(0,tm 30)]),bi (some 32) .append [tm 29,tm 31] [T.tKs,T.tKs] T.tKs,mk none (.store T.tKs (tm 4) (tm 32))]]
def uW (T:TN):Code:=.loop (.seq (rg [mk (some 25) (.next (tm 24) false),mk (some 26) (.extract (tm 25) 0)]) (.seq (.cond (tm 26) .skip (.exit 0)) (.block 1 (uY T))))
def uX (T:TN):Code:=sq [rg [mk (some 41) (.indexAddr T.tKs (tm 37) (tm 39)),mk (some 42) (.load T.tU32 (tm 41)),mk (some 7) (.assign (tm 42))],
 rg ([mk (some 43) (.move (tm 1)),mk (some 44) (.move (tm 7))]++rk T 45++[mk (some 49) (.move (tm 7)),mk (some 50) (.lookup T.tM (tm 48) (tm 49) false),mk (some 51) (.call ⟨.value (tm 43),#[tm 44,tm 50],#[]⟩)])]
def rq (T:TN):Code:=.loop (.seq (rg [mk (some 40) (.binOp .lss T.tInt (tm 39) (tm 38) 0)]) (.seq (.cond (tm 40) .skip (.exit 2)) (.seq (.block 3 (uX T)) (rg [mk (some 52) (.binOp .add T.tInt (tm 39) (ki .i64 1) 0),mk (some 39) (.move (tm 52))]))))
def cEach (T:TN):Code:=
 .seq (.seq (rg (rk T 8++[bi (some 12) .len [tm 11] [T.tM] T.tInt,mk (some 13) (.binOp .eql T.tInt (tm 12) (ki .i64 0) 0)])) (.cond (tm 13) .ret .skip))
 (.seq (rg (rk T 14++[bi (some 18) .len [tm 17] [T.tM] T.tInt,mk (some 19) (.makeSlice T.tKs (ki .i64 0) (tm 18)),mk (some 4) (.alloc T.tKs),mk none (.store T.tKs (tm 4) (tm 19))]))
 (.seq (.seq (rg (rk T 20++[mk (some 24) (.range T.tM (tm 23))])) (.block 0 (uW T)))
 (.seq (rg [mk (some 33) (.load T.tKs (tm 4)),mk (some 34) (.makeInterface T.tKs (tm 33)),mk (some 35) (.makeFunc (.func T.fLess) #[] #[tm 4]),cl (some 36) T.fSort [tm 34,tm 35]])
 (.seq (rg [mk (some 37) (.load T.tKs (tm 4)),bi (some 38) .len [tm 37] [T.tKs] T.tInt,mk (some 39) (.move (ki .i64 0))]) (.block 2 (rq T))))))
def cTEach (T:TN):Code:=sq [rg [mk (some 3) (.box T.tSl (tm 1)),mk (some 4) (.assign (.const bR))],rg [mk (some 5) (.move (tm 0)),mk (some 6) (.makeFunc (.func T.fOne) #[] #[tm 3]),cl (some 7) T.fEach [tm 5,tm 6]],
 rg [mk (some 8) (.load T.tSl (tm 3)),mk (some 4) (.assign (tm 8))],.ret]
def cTOne (T:TN):Code:=sq [rg [mk (some 5) (.load T.tSl (tm 2)),mk (some 6) (.move (tm 0)),cl (some 7) T.fUv [tm 5,tm 6],mk none (.store T.tSl (tm 2) (tm 7))],
 rg [mk (some 8) (.load T.tSl (tm 2)),mk (some 9) (.move (tm 1)),bi (some 10) .len [tm 9] [T.tSl] T.tInt,mk (some 11) (.convert T.tInt T.tU32 (tm 10)),cl (some 12) T.fUv [tm 8,tm 11],mk none (.store T.tSl (tm 2) (tm 12))],
 rg [mk (some 13) (.load T.tSl (tm 2)),mk (some 14) (.move (tm 1)),bi (some 15) .append [tm 13,tm 14] [T.tSl,T.tSl] T.tSl,mk none (.store T.tSl (tm 2) (tm 15))]]
