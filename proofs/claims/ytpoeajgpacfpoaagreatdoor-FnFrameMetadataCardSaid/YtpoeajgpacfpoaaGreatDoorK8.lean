/-
  PLAIN LAWS AND CONTRACTS of messages, part 8.
-/
import Derived.Test.YtpoeajgpacfpoaaGreatDoorK6
import Derived.Deep.AppendSrc
import Derived.Laws.AppendOwn

namespace Go.Proofs.YtpoeajgpacfpoaaGreatDoor.Kx
open Go
def di:Nat:=70400000000000
def aJ (b:UInt8):Value:=.int .u8 (b.toNat:Int)
def aA (w:World)(L te:Nat)(d:Value)(bs:Bs):Prop:=
 (d=.slice none 0 0/\bs=[]) \/
 ∃ (g c:Nat) (cur:Array Value),d=.slice (some ⟨g,0,none⟩) bs.length c/\L<=g/\w.heap[g]?=some (.cells cur te (0,0))/\bs.length<=c/\c<=maxLen/\cur.size=c/\∀ (i:Nat) (x:UInt8),bs[i]?=some x->cur[i]?=some (aJ x)
structure Gr (L te:Nat)(d:Value)(w:World)(d':Value)(bs':Bs)(w':World):Prop where
 dst:aA w' L te d' bs'
 keeps:ac (fun k=>d.ownBlock=some k) w w'
 own:∀ k,d'.ownBlock=some k->d.ownBlock=some k \/ w.heap.size<=k
section
variable {L te:Nat} {d d1 d':Value} {w w1 w':World} {bs bs1 bs':Bs}
theorem aA.own (h:aA w L te d bs){k:Nat}(hk:d.ownBlock=some k):L<=k/\k<w.heap.size:=by
 rcases h with⟨rfl,_⟩|⟨g,c,cur,rfl,hL,hg,_⟩
 ·cases hk
 ·obtain rfl:g=k:=Option.some.inj hk
  exact⟨hL,(Array.getElem?_eq_some_iff.1 hg).1⟩
theorem aA.away {b:Nat}(h:aA w L te d bs)(hb:b<L)(hL:L<=w.heap.size):b<w.heap.size/\d.ownBlock≠some b:=⟨by omega,fun hh=>by have:=(h.own hh).1;omega⟩
theorem aA.keep {X:Nat->Prop}(h:aA w L te d bs)(hk:ac X w w')(hx:∀ k,d.ownBlock=some k->¬ X k):aA w' L te d bs:=by
 rcases h with h|⟨g,c,cur,rfl,hL,hg,h⟩
 ·exact .inl h
 ·exact .inr ⟨g,c,cur,rfl,hL,by rw[hk.block g (Array.getElem?_eq_some_iff.1 hg).1 (hx g rfl)];exact hg,h⟩
theorem aA.nil (w:World)(L te:Nat):aA w L te (.slice none 0 0) []:=.inl ⟨rfl,rfl⟩
theorem Gr.refl (h:aA w L te d bs):Gr L te d w d bs w:=⟨h,ac.refl _ _,fun _ h=>.inl h⟩
theorem Gr.trans (h:Gr L te d w d1 bs1 w1)(k:Gr L te d1 w1 d' bs' w'):Gr L te d w d' bs' w':=
 ⟨k.dst,⟨k.keeps.os.trans h.keeps.os,k.keeps.tape.trans h.keeps.tape,k.keeps.output.trans h.keeps.output,Nat.le_trans h.keeps.size k.keeps.size,fun i hi hx=>by
   have hs:=h.keeps.size
   rw[k.keeps.block i (by omega) (fun hh=>by rcases h.own i hh with h1|h1;exact hx h1;omega),h.keeps.block i hi hx]⟩,
  fun i hi=>by
   have hs:=h.keeps.size
   rcases k.own i hi with h1|h1
   ·exact h.own i h1
   ·exact .inr (by omega)⟩
theorem Gr.far (hd:aA w L te d bs)(h:Gr L te d w d' bs' w'):ac (fun k=>L<=k) w w':=h.keeps.mono fun _ _ hk=>(hd.own hk).1
theorem Gr.pre {X:Nat->Prop}(hk:ac X w w1)(hx:∀ k,k<w.heap.size->¬ X k)(h:Gr L te d w1 d' bs' w'):Gr L te d w d' bs' w':=
 ⟨h.dst,⟨h.keeps.os.trans hk.os,h.keeps.tape.trans hk.tape,h.keeps.output.trans hk.output,Nat.le_trans hk.size h.keeps.size,fun i hi NG=>by
   have hs:=hk.size
   rw[h.keeps.block i (by omega) NG,hk.block i hi (hx i hi)]⟩,fun i hi=>by
  have hs:=hk.size
  rcases h.own i hi with h1|h1
  ·exact .inl h1
  ·exact .inr (by omega)⟩
theorem Gr.post {X:Nat->Prop}(h:Gr L te d w d' bs' w1)(hk:ac X w1 w')(hx:∀ k,X k->w.heap.size<=k/\d'.ownBlock≠some k):Gr L te d w d' bs' w':=
 ⟨h.dst.keep hk (fun k hk hX=>(hx k hX).2 hk),⟨hk.os.trans h.keeps.os,hk.tape.trans h.keeps.tape,hk.output.trans h.keeps.output,Nat.le_trans h.keeps.size hk.size,fun i hi NG=>by
   have hs:=h.keeps.size
   rw[hk.block i (by omega) (fun hX=>by have:=(hx i hX).1;omega),h.keeps.block i hi NG]⟩,h.own⟩
theorem Gr.lower {L':Nat}(hL:L'<=L)(h:Gr L te d w d' bs' w'):Gr L' te d w d' bs' w':=
 ⟨by
  rcases h.dst with h|⟨g,c,cur,h1,h2,h3⟩
  ·exact .inl h
  ·exact .inr ⟨g,c,cur,h1,by omega,h3⟩,h.keeps,h.own⟩
end
structure OctT (P:Program)(tSl tU8:Nat):Prop where
 und:P.underlying tSl=some (.slice tU8)
 info:∃ i z,P.info? tU8=some i/\i.zero=some z/\i.size=1/\i.bytes=1/\z.cells.size=1
section
variable {P:Program} {tSl te:Nat}
theorem fh (ot:OctT P tSl te){tx ty:TypeId}{L:Nat}{d x:Value}{w:World}{bs l:Bs}(hd:aA w L te d bs)(hs:Src P 1 tx x l.length (l.map aJ) w)(hL:L<=w.heap.size)(hlim:bs.length+l.length<=di) :
  ∃ d' w',(Builtin.append_ #[tSl,tx] ty #[d,x]).run P w=.ok d' w'/\Gr L te d w d' (bs++l) w':=by
 obtain⟨i,z,hi,hz,Ii,MD,K7⟩:=ot.info
 have ht:=ot.und
 simp only[di]at hlim
 have KY:Src P i.size tx x l.length (l.map aJ) w:=by rw[Ii];exact hs
 have grown:∀ (base:Option Addr) (old:Nat),old<bs.length+l.length->d.ownBlock=d.ownBlock->(Builtin.firstCells i.size bs.length (.slice base bs.length old)).run P w.drew=.ok (bs.map aJ).toArray w.drew ->
   ∃ d' w',(Builtin.append_ #[tSl,tx] ty #[.slice base bs.length old,x]).run P w=.ok d' w'/\Gr L te d w d' (bs++l) w':=by
  intro base old ho _ Jv
  have hr:=run_append_grow_src (P:=P) w tSl tx ty te i z ht hi hz base bs.length old (bs.map aJ) Jv x l.length (l.map aJ) KY ho (by omega) (growslice_fits ho (by rw[MD];omega))
  refine⟨_,_,hr,?_⟩
  have Jh:=grownCap_ge w (bs.length+l.length) old te
  have Kt:grownCap w (bs.length+l.length) old te<=maxLen:=grownCap_le_maxLen w _ old te (by simp only[maxLen];omega)
  refine⟨.inr ⟨w.heap.size,_,_,by rw[List.length_append],hL,Go.heap_alloc_new w.drew _,by rw[List.length_append];exact Jh,Kt,?_,?_⟩,⟨rfl,rfl,rfl,by simp,fun k hk _=>bu (w:=w.drew) hk⟩,fun k hk=>?_⟩
  ·simp only[Array.size_append,List.size_toArray,size_zeroCells,K7,List.length_append,List.length_map]
   omega
  ·intro j u hj
   have JF:j<(bs++l).length:=(List.getElem?_eq_some_iff.1 hj).1
   rw[Array.getElem?_append_left (by simp only[List.size_toArray,List.length_append,List.length_map];rw[List.length_append]at JF;exact JF)]
   rw[List.getElem?_toArray,<- List.map_append,List.getElem?_map,hj]
   rfl
  ·right
   simp only[Value.ownBlock,Option.some.injEq]at hk
   omega
 rcases hd with⟨rfl,rfl⟩|⟨g,c,cur,rfl,Qj,hg,Pg,Kt,Iz,IP⟩
 ·by_cases h0:l.length=0
  ·have hl:l=[]:=List.eq_nil_of_length_eq_zero h0
   subst hl
   refine⟨.slice none 0 0,w,?_,Gr.refl (aA.nil _ _ _)⟩
   have h1:=hs.len
   have h2:=hs.cells
   simp only[List.length_nil,List.map_nil]at h1 h2
   rcases hs.kind with⟨e',hk⟩|hk<;>simp[Builtin.append_,run_underlying ht,run_underlying hk,sizeOf,typeInfo,hi,Ii,h1,h2]
  ·refine grown none 0 (by simp only[List.length_nil];omega) rfl ?_
   simp[Builtin.firstCells]
 ·by_cases IZ:bs.length+l.length<=c
  ·have IN:=run_storeCells_at P g bs.length te (l.map aJ) 0 cur w hg (by rw[List.length_map];omega) hs.one
   simp only[Nat.add_zero]at IN
   have hr:(Builtin.append_ #[tSl,tx] ty #[.slice (some ⟨g,0,none⟩) bs.length c,x]).run P w=.ok (.slice (some ⟨g,0,none⟩) (bs.length+l.length) c) (w.setRow g (aD cur bs.length (l.map aJ))):=by
    rcases hs.kind with⟨e',hk⟩|hk<;>simp[Builtin.append_,run_underlying ht,run_underlying hk,sizeOf,typeInfo,hi,Ii,hs.len,IZ,hs.cells,Addr.add_lit,IN,aD]
   refine⟨_,_,hr,.inr ⟨g,c,_,by rw[List.length_append],Qj,setRow_heap _ _ _ _ _ _ hg,by rw[List.length_append];exact IZ,Kt,?_,?_⟩,ac.setRow _ _ _ _ rfl,fun k hk=>.inl hk⟩
   ·rw[da (by rw[List.length_map];omega)];exact Iz
   ·intro j u hj
    by_cases Og:j<bs.length
    ·rw[bV (by rw[List.length_map];omega) j (.inl Og)]
     rw[List.getElem?_append_left Og]at hj
     exact IP j u hj
    ·rw[List.getElem?_append_right (by omega)]at hj
     have:=bA (cur:=cur) (o:=bs.length) (vs:=l.map aJ) (by rw[List.length_map];omega) (j-bs.length) (by have:=(List.getElem?_eq_some_iff.1 hj).1;rw[List.length_map];exact this)
     rw[show bs.length+(j-bs.length)=j by omega]at this
     rw[this,List.getElem?_map,hj]
     rfl
  ·refine grown (some ⟨g,0,none⟩) c (by omega) rfl ?_
   have:=run_loadCells_list (P:=P) w.drew ⟨g,0,none⟩ (bs.map aJ) (fun j u hj=>by
    rw[List.getElem?_map,Option.map_eq_some_iff]at hj
    obtain⟨b,hb,rfl⟩:=hj
    rw[Addr.add_lit]
    have I0:w.drew.heap[g]?=some (.cells cur te (0,0)):=hg
    simp[World.cell?,I0,IP j b hb])
   simp only[List.length_map]at this
   simp[Builtin.firstCells,Ii,this]
theorem eh (ot:OctT P tSl te){tx ty:TypeId}{ops:Array Oper}{Q:Exit->Act->World->Prop}{r:List Oper}{a:Act}{dd:Option Nat}{p q:Operand}{L:Nat}{d x:Value}{w:World}{bs l:Bs}(hp:a.eval p=d)(hq:a.eval q=x)
  (hd:aA w L te d bs) (hs:Src P 1 tx x l.length (l.map aJ) w) (hL:L<=w.heap.size) (hlim:bs.length+l.length<=di)
  (h:∀ d' w',Gr L te d w d' (bs++l) w'->wpList P ops Q r (a.put dd d') w'):wpList P ops Q (bi dd .append [p,q] [tSl,tx] ty::r) a w:=by
 obtain⟨d',w',hr,hg⟩:=fh (ty:=ty) ot hd hs hL hlim
 refine wpList_plain rfl fun _ hK=>?_
 unfold Oper.wp
 have:(execOp a.eval (bi dd .append [p,q] [tSl,tx] ty)).run P w=.ok (.value d') w':=by
  simp[execOp,bi,resolve,invoke,hp,hq,builtin,hr]
 rw[this]
 exact hK _ _ (h d' w' hg)
theorem ic (ot:OctT P tSl te){w:World}{g o c:Nat}{l:Bs}(h:ez w g o l):Src P 1 tSl (.slice (some ⟨g,o,none⟩) l.length c) l.length (l.map aJ) w:=
 Src.ofSlice w ot.und ⟨g,o,none⟩ l.length c _ (by simp) (fun j u hj=>by
  rw[List.getElem?_map,Option.map_eq_some_iff]at hj
  obtain⟨b,hb,rfl⟩:=hj
  rw[Addr.add_lit]
  exact h j b hb) lp
theorem p9 (ot:OctT P tSl te)(w:World)(c:Nat):Src P 1 tSl (.slice none 0 c) ([]:Bs).length (([]:Bs).map aJ) w:=Src.ofNil w ot.und c
theorem zV {tStr:Nat}(hk:P.underlying tStr=some .string)(w:World)(l:Bs):Src P 1 tStr (.string ⟨l.toArray⟩) l.length (l.map aJ) w:=by
 have:=Src.ofString (P:=P) w hk ⟨l.toArray⟩
 exact this
end
abbrev OE:=Option Nat × Bool
def eu (e:OE):Nat:=2+(if e.1.isSome then 1 else 0)+(if e.2 then 2 else 0)
def yw (K:Kn)(tX:Nat)(k:IntKind)(e:OE)(n:Nat):List Oper:=
 mk (some n) (.move (tm 1)) ::
 ((match e.1 with|some s=>[mk (some (n+1)) (.binOp .shr tX (tm n) (ki .u64 s) 0)]|none=>[]) ++
 let q:=n+(if e.1.isSome then 1 else 0)
 (if e.2 then[mk (some (q+1)) (.binOp .and tX (tm q) (ki k 127) 0),mk (some (q+2)) (.binOp .or tX (tm (q+1)) (ki k 128) 0),mk (some (q+3)) (.convert tX K.tU8 (tm (q+2)))]
  else[mk (some (q+1)) (.convert tX K.tU8 (tm q))]))
def pX (K:Kn)(tX:Nat)(k:IntKind):List OE->Nat->List Oper
 | [],_=>[]
 | e::r,n=>yw K tX k e n++pX K tX k r (n+eu e)
def d8:List OE->Nat
 | []=>0
 | e::r=>eu e+d8 r
def gM:List OE->Nat->List Nat
 | [],_=>[]
 | e::r,n=>(n+eu e-1)::gM r (n+eu e)
def jF (e:OE)(x:Int):UInt8:=UInt8.ofNat (if e.2 then(x/2^(e.1.getD 0)%128+128).toNat else(x/2^(e.1.getD 0)%256).toNat)
def bz (es:List OE)(x:Int):Bs:=es.map fun e=>jF e x
def Bo:Nat->List Nat->List (Nat × Operand)
 | _,[]=>[]
 | i,s::r=>(i,tm s)::Bo (i+1) r
def gj (K:Kn)(tX:Nat)(k:IntKind)(es:List OE):GC:=gS [ay (3+d8 es) fun n=>mk (some n) (.move (tm 0))::(pX K tX k es (n+1) ++
  [mk (some (n+1+d8 es)) (.buildSlice K.tSl es.length (Bo 0 (gM es (n+1))).toArray),bi (some (n+2+d8 es)) .append [tm n,tm (n+1+d8 es)] [K.tSl,K.tSl] K.tSl,mk (some 4) (.assign (tm (n+2+d8 es)))]),aS .ret]
section
variable {P:Program} {g:G} {K:Kn}
theorem ur {k:IntKind}{A:Nat}{x:Int}{s:Nat}(hs:s<=k.bits)(w:World):(binOp .shr A (.int k x) (.int .u64 (s:Int))).run P w=.ok (.int k (x/2^s)) w:=by
 have h1:¬ ((s:Int)<0):=by omega
 have h2:min s k.bits=s:=by omega
 have h3:(0:Int)<=2^s:=by
  have:=Int.pow_pos (n:=2) (m:=s) (by omega)
  omega
 simp only[binOp,Op.shift,h1,if_false,Int.toNat_natCast,h2,Sem.run_pure,Int.fdiv_eq_ediv_of_nonneg _ h3]
theorem nC {k:IntKind}(hk:uk k){A m:Nat}(hm:m<2^k.bits)(w:World):(binOp .and A (.int k (m:Int)) (.int k 127)).run P w=.ok (.int k ((m%128:Nat):Int)) w:=by
 have e1:BitVec.ofInt k.bits (m:Int)=BitVec.ofNat k.bits m:=by simp
 have e2:BitVec.ofInt k.bits 127=BitVec.ofNat k.bits 127:=BitVec.ofInt_natCast (n:=127) ..
 have WI:127<2^k.bits:=by rcases hk with rfl|rfl|rfl<;>decide
 have e4:(BitVec.ofNat k.bits m &&& BitVec.ofNat k.bits 127).toNat=m%128:=by
  rw[BitVec.toNat_and,BitVec.toNat_ofNat,BitVec.toNat_ofNat,Nat.mod_eq_of_lt hm,Nat.mod_eq_of_lt WI]
  exact Nat.and_two_pow_sub_one_eq_mod m 7
 have J0:(k≠k)=False:=by simp
 have h3:m%128<2^k.bits:=by omega
 simp only[binOp,J0,if_false,Op.intBits,e1,e2,e4,fI hk h3,Sem.run_pure]
theorem vp {k:IntKind}(hk:uk k){A m:Nat}(hm:m<128)(w:World):(binOp .or A (.int k (m:Int)) (.int k 128)).run P w=.ok (.int k ((m+128:Nat):Int)) w:=by
 have e1:BitVec.ofInt k.bits (m:Int)=BitVec.ofNat k.bits m:=by simp
 have e2:BitVec.ofInt k.bits 128=BitVec.ofNat k.bits 128:=BitVec.ofInt_natCast (n:=128) ..
 have h256:256<=2^k.bits:=by rcases hk with rfl|rfl|rfl<;>decide
 have e3:m ||| 128=m+128:=by
  have:=Nat.two_pow_add_eq_or_of_lt (i:=7) (b:=m) (by omega) 1
  rw[Nat.or_comm]
  simp at this
  omega
 have e4:(BitVec.ofNat k.bits m ||| BitVec.ofNat k.bits 128).toNat=m+128:=by
  rw[BitVec.toNat_or,BitVec.toNat_ofNat,BitVec.toNat_ofNat,Nat.mod_eq_of_lt (by omega),Nat.mod_eq_of_lt (by omega),e3]
 have J0:(k≠k)=False:=by simp
 simp only[binOp,J0,if_false,Op.intBits,e1,e2,e4,fI hk (show m+128<2^k.bits by omega),Sem.run_pure]
theorem wM (y:Int):IntKind.u8.wrap y=((UInt8.ofNat (y%256).toNat).toNat:Int):=by
 simp[IntKind.wrap,IntKind.bits,IntKind.signed]
 omega
theorem wR {tX:Nat}{k:IntKind}(hX:P.underlying tX=some (.int k))(h8:P.underlying K.tU8=some (.int .u8)){ops:Array Oper}{Q:Exit->Act->World->Prop}{r:List Oper}{a:Act}{w:World}{y:Int}{m:Bool}{q:Nat}
  (hq:a.get q=.int k y) (hm:m=true->uk k/\0<=y/\y<2^k.bits) (hs:q+(if m then 3 else 1)<a.tmps.size)
  (h:∀ a',Pv (q+1) 0 0 (q+1) a a'->a'.get (q+(if m then 3 else 1))=aJ (UInt8.ofNat (if m then(y%128+128).toNat else(y%256).toNat))->wpList P ops Q r a' w) :
  wpList P ops Q ((if m then[mk (some (q+1)) (.binOp .and tX (tm q) (ki k 127) 0),mk (some (q+2)) (.binOp .or tX (tm (q+1)) (ki k 128) 0),mk (some (q+3)) (.convert tX K.tU8 (tm (q+2)))] else[mk (some (q+1)) (.convert tX K.tU8 (tm q))])++r) a w:=by
 cases m with
 | false=>
  simp only[Bool.false_eq_true,if_false]at hs h ⊢
  refine aL (k:=k) (k':=.u8) (m:=y) hq hX h8 (h _ ((Pv.refl _ _ _ _ _).put _ (.inl rfl)) ?_)
  rw[db _ _ _ hs,wM]
  rfl
 | true=>
  simp only[if_true]at hs h ⊢
  obtain⟨hk,h0,hb⟩:=hm rfl
  obtain⟨y',rfl⟩:=Int.eq_ofNat_of_zero_le h0
  have NT:y'<2^k.bits:=by exact_mod_cast hb
  refine co (k:=k) (m:=y') (n:=127) hq rfl (by simp) (nC hk NT w) ?_
  refine co (k:=k) (m:=((y'%128:Nat):Int)) (n:=128) (by rw[aa,ao (by omega)]) rfl (by simp) (vp hk (by omega) w) ?_
  refine aL (k:=k) (k':=.u8) (m:=((y'%128+128:Nat):Int)) (by rw[aa,ao (by simp only[ab];omega)]) hX h8 (h _ ((((Pv.refl _ _ _ _ _).put _ (.inl rfl)).put _ (.inr (by omega))).put _ (.inr (by omega))) ?_)
  rw[ao (by simp only[ab];omega),wM]
  have e1:(((y'%128+128:Nat):Int)%256).toNat=y'%128+128:=by omega
  have e2:((y':Int)%128+128).toNat=y'%128+128:=by omega
  rw[e1,e2]
  rfl
theorem EI {tX:Nat}{k:IntKind}(hX:P.underlying tX=some (.int k))(h8:P.underlying K.tU8=some (.int .u8)){ops:Array Oper}{Q:Exit->Act->World->Prop}{r:List Oper}{a:Act}{w:World}{x:Int}{e:OE}{n:Nat}(WG:1<n)
  (h1:a.get 1=.int k x) (Io:e=(none,false) \/ (uk k/\0<=x/\x<2^k.bits/\∀ s,e.1=some s->s<=k.bits)) (hs:n+eu e<=a.tmps.size)
  (h:∀ a',Pv n 0 0 n a a'->a'.get (n+eu e-1)=aJ (jF e x)->wpList P ops Q r a' w):wpList P ops Q (yw K tX k e n++r) a w:=by
 obtain⟨s,m⟩:=e
 have XC:Pv n 0 0 n a (a.put (some n) (.int k x)):=(Pv.refl _ _ _ _ _).put _ (.inl rfl)
 refine ah ?_
 rw[aa,h1]
 cases s with
 | none=>
  show wpList P ops Q ((if m then _ else _)++r) _ w
  refine wR (q:=n) (y:=x) hX h8 (ao (by simp only[eu]at hs;omega)) (fun hm=>?_) (by simp only[ab];simp only[eu]at hs;cases m<;>simp at hs ⊢<;>omega) fun a' hp hg=>h a' (XC.trans ⟨hp.size,hp.defers,fun s If Iw=>hp.get s (by omega) (by omega)⟩) ?_
  ·subst hm
   rcases Io with Io|⟨h2,h3,h4,_⟩
   ·cases Io
   ·exact⟨h2,h3,h4⟩
  ·rw[show n+eu (none,m)-1=n+(if m then 3 else 1) by cases m<;>simp[eu]]
   rw[hg]
   simp[jF]
 | some s=>
  rcases Io with Io|⟨h2,h3,h4,h5⟩
  ·cases Io
  have UF:=h5 s rfl
  show wpList P ops Q (mk (some (n+1)) (.binOp .shr tX (tm n) (ki .u64 s) 0)::((if m then _ else _)++r)) _ w
  have Ii:n+1<a.tmps.size:=by simp only[eu]at hs;cases m<;>simp at hs<;>omega
  have Im:=ur (P:=P) (k:=k) (A:=tX) (x:=x) UF w
  refine aB (v:=.int k (x/2^s)) (w':=w) ?_ ?_
  ·have e1:(a.put (some n) (.int k x)).eval (tm n)=.int k x:=by rw[aa,ao (by omega)]
   have e2:(a.put (some n) (.int k x)).eval (ki .u64 s)=.int .u64 s:=rfl
   simp[execOp,mk,e1,e2,eqGuard,Im]
  ·have Jd:(0:Int)<2^s:=Int.pow_pos (by omega)
   have hy0:0<=x/2^s:=Int.ediv_nonneg h3 (by omega)
   have hyb:x/2^s<2^k.bits:=Int.lt_of_le_of_lt (Int.ediv_le_self _ h3) h4
   refine wR (q:=n+1) (y:=x/2^s) hX h8 (ao (by simp only[ab];omega)) (fun hm=>⟨h2,hy0,hyb⟩) (by simp only[ab];simp only[eu]at hs;cases m<;>simp at hs ⊢<;>omega) fun a' hp hg=>
    h a' ((XC.put _ (.inr (by omega))).trans ⟨hp.size,hp.defers,fun s If Iw=>hp.get s (by omega) (by omega)⟩) ?_
   rw[show n+eu (some s,m)-1=n+1+(if m then 3 else 1) by cases m<;>simp[eu]]
   rw[hg]
   simp[jF]
theorem vH (e:OE):2<=eu e:=by simp only[eu];omega
theorem rN {tX:Nat}{k:IntKind}(hX:P.underlying tX=some (.int k))(h8:P.underlying K.tU8=some (.int .u8)){ops:Array Oper}{Q:Exit->Act->World->Prop}{r:List Oper}{w:World}{x:Int} :
  ∀ (es:List OE) (n:Nat) (a:Act),1<n->a.get 1=.int k x->(∀ e∈es,e=(none,false) \/ (uk k/\0<=x/\x<2^k.bits/\∀ s,e.1=some s->s<=k.bits))->n+d8 es<=a.tmps.size ->
  (∀ a',Pv n 0 0 n a a'->(gM es n).map a'.get=(bz es x).map aJ->(∀ s∈gM es n,n<=s)->wpList P ops Q r a' w)->wpList P ops Q (pX K tX k es n++r) a w
 | [],n,a,_,_,_,_,h=>h a (Pv.refl _ _ _ _ _) rfl (by simp[gM])
 | e::es,n,a,WG,h1,Io,hs,h=>by
  have hl:=vH e
  simp only[d8]at hs
  show wpList P ops Q ((yw K tX k e n++pX K tX k es (n+eu e))++r) a w
  rw[List.append_assoc]
  refine EI hX h8 WG h1 (Io e (List.mem_cons_self ..)) (by omega) fun a1 HX Ig=>?_
  have KD:=HX.size
  refine rN hX h8 es (n+eu e) a1 (by omega) (by rw[HX.get 1 (by omega) (by omega)];exact h1) (fun e' he=>Io e' (List.mem_cons_of_mem _ he)) (by omega) fun a2 HZ Ij Jh=>?_
  refine h a2 (HX.trans ⟨HZ.size,HZ.defers,fun s If Iw=>HZ.get s (by omega) (by omega)⟩) ?_ ?_
  ·simp only[gM,bz,List.map_cons]
   rw[HZ.get (n+eu e-1) (by omega) (by omega),Ig,Ij]
   rfl
  ·intro s hs
   simp only[gM,List.mem_cons]at hs
   rcases hs with rfl|hs
   ·omega
   ·have:=Jh s hs;omega
def rK:Nat->List Value->List (Nat × Value)
 | _,[]=>[]
 | i,v::r=>(i,v)::rK (i+1) r
theorem l5:∀ (vs:List Value) (i:Nat) (cur:Array Value),(∀ v∈vs,v.cells=#[v])->i+vs.length<=cur.size->Instr.fill (fun i=>some (i,1)) cur (rK i vs)=some (aD cur i vs)
 | [],i,cur,_,h=>by simp[rK,Instr.fill,aD]
 | v::vs,i,cur,h1,h=>by
  have hv:=h1 v (List.mem_cons_self ..)
  simp only[List.length_cons]at h
  have ih:=l5 vs (i+1) (cur.setIfInBounds i v) (fun u hu=>h1 u (List.mem_cons_of_mem _ hu)) (by simp;omega)
  have hc:¬ (i+1 > cur.size):=by omega
  simp only[rK,Instr.fill,hv]
  simp[hc]
  rw[ih]
  congr 1
  apply Array.ext'
  apply List.ext_getElem?
  intro j
  have e1:=@da (cur.setIfInBounds i v) (i+1) vs (by simp;omega)
  have e2:=@da cur i (v::vs) (by simp only[List.length_cons];omega)
  simp only[Array.getElem?_toList]
  by_cases hj:j<i
  ·rw[bV (by simp;omega) j (.inl (by omega)),bV (by simp only[List.length_cons];omega) j (.inl hj),Array.getElem?_setIfInBounds,if_neg (by omega)]
  ·by_cases QS:j=i
   ·subst QS
    have:=bA (cur:=cur) (o:=j) (vs:=v::vs) (by simp only[List.length_cons];omega) 0 (by simp)
    rw[Nat.add_zero]at this
    rw[this,bV (by simp;omega) j (.inl (by omega)),Array.getElem?_setIfInBounds,if_pos rfl,if_pos (by omega)]
    rfl
   ·by_cases JF:j<i+1+vs.length
    ·have h3:=bA (cur:=cur.setIfInBounds i v) (o:=i+1) (vs:=vs) (by simp;omega) (j-(i+1)) (by omega)
     have h4:=bA (cur:=cur) (o:=i) (vs:=v::vs) (by simp only[List.length_cons];omega) (j-i) (by simp only[List.length_cons];omega)
     rw[show i+1+(j-(i+1))=j by omega]at h3
     rw[show i+(j-i)=j by omega]at h4
     rw[h3,h4,show j-i=(j-(i+1))+1 by omega]
     rfl
    ·rw[bV (by simp;omega) j (.inr (by omega)),bV (by simp only[List.length_cons];omega) j (.inr (by simp only[List.length_cons];omega)),Array.getElem?_setIfInBounds,if_neg (by omega)]
theorem lu (a:Act):∀ (ss:List Nat) (i:Nat),(Bo i ss).map (fun p=>(p.1,a.eval p.2))=rK i (ss.map a.get)
 | [],_=>rfl
 | s::r,i=>by
  simp only[Bo,List.map_cons,rK,lu a r (i+1)]
  rfl
theorem dK {tSl te:Nat}(ot:OctT P tSl te){ops:Array Oper}{Q:Exit->Act->World->Prop}{r:List Oper}{a:Act}{w:World}{d:Nat}{ps:List (Nat × Operand)}{l:Bs}(hp:ps.map (fun p=>(p.1,a.eval p.2))=rK 0 (l.map aJ))(h0:l≠[])(hb:l.length<=16777216)
  (h:wpList P ops Q r (a.put (some d) (.slice (some ⟨w.heap.size,0,none⟩) l.length l.length)) (w.alloc (.cells (l.map aJ).toArray te (0,0)))) :
  wpList P ops Q (mk (some d) (.buildSlice tSl l.length ps.toArray)::r) a w:=by
 obtain⟨i,z,hi,hz,Ii,MD,K7⟩:=ot.info
 refine aB (w':=w.alloc (.cells (l.map aJ).toArray te (0,0))) ?_ h
 have hl:l.length≠0:=fun h=>h0 (List.eq_nil_of_length_eq_zero h)
 have JY:=l5 (l.map aJ) 0 ((Array.range l.length).map fun k=>z.cells[k%z.cells.size]!) (fun v hv=>by
  obtain⟨b,_,rfl⟩:=List.mem_map.1 hv
  rfl) (by simp)
 rw[dy (by simp)]at JY
 have hm:(ps.toArray.map fun(p:Nat × Operand)=>(p.1,a.eval p.2)).toList=rK 0 (l.map aJ):=by simpa using hp
 have RG:¬ (l.length > 16777216):=by omega
 simp[execOp,mk,Instr.buildSlice,run_underlying ot.und,sizeOf,typeInfo,zeroValue,hi,hz,Ii,RG,hl,hp,JY,newRow,newObj,Sem.run]
theorem xB {tX:Nat}{k:IntKind}(ot:OctT P K.tSl K.tU8)(hX:P.underlying tX=some (.int k))(h8:P.underlying K.tU8=some (.int .u8)){es:List OE}{E N:Act->World->Prop}{a:Act}{w:World}{x:Int}{n L:Nat}{d:Value}{bs:Bs}(WG:4<n)
  (h0:a.get 0=d) (h1:a.get 1=.int k x) (Io:∀ e∈es,e=(none,false) \/ (uk k/\0<=x/\x<2^k.bits/\∀ s,e.1=some s->s<=k.bits)) (KP:es≠[]) (Qo:es.length<=10) (hs:n+3+d8 es<=a.tmps.size)
  (hd:aA w L K.tU8 d bs) (hL:L<=w.heap.size) (hlim:bs.length+es.length<=di)
  (h:∀ a' w' d',a'.defers=a.defers->a'.get 4=d'->Gr L K.tU8 d w d' (bs++bz es x) w'->E a' w'):aK P (gj K tX k es n).1 (Rt N E) a w:=by
 refine aY (ad (aq (ah ?_)))
 rw[aa,h0]
 refine rN hX h8 es (n+1) _ (by omega) (by rw[al (by omega)];exact h1) Io (by simp only[ab];omega) fun a1 HX Ig Jh=>?_
 have If:=HX.size
 simp only[ab]at If
 have Ib:(bz es x).length=es.length:=by simp[bz]
 rw[<- Ib]
 refine dK ot (by rw[lu,Ig]) (fun hh=>KP (by rw[hh]at Ib;exact List.eq_nil_of_length_eq_zero Ib.symm)) (by omega) ?_
 rw[Ib]
 have hk:ac (fun _=>False) w (w.alloc (.cells ((bz es x).map aJ).toArray K.tU8 (0,0))):=ac.alloc _ _ _
 have Jw:ez (w.alloc (.cells ((bz es x).map aJ).toArray K.tU8 (0,0))) w.heap.size 0 (bz es x):=by
  intro j b hj
  have:=aE w (.cells ((bz es x).map aJ).toArray K.tU8 (0,0))
  simp only[World.cell?,this,Nat.zero_add,List.getElem?_toArray,List.getElem?_map,hj]
  rfl
 refine eh ot (d:=d) (L:=L) (bs:=bs) (l:=bz es x) ?_ (x:=.slice (some ⟨w.heap.size,0,none⟩) (bz es x).length es.length) ?_ (hd.keep hk fun _ _ h=>h) (ic ot Jw) (by have:=hk.size;omega) (by rw[Ib];exact hlim) fun d' w' hg=>?_
 ·rw[aa,al (by omega),HX.get n (by omega) (by omega),ao (by omega)]
 ·rw[aa,ao (by omega),Ib]
 refine ak (wpList_nil ?_)
 show LW P [aS .ret] _ _ _ _
 rw[aa,ao (by simp only[ab];omega)]
 refine ad (.ret ?_)
 exact h _ w' d' (by simp only[aj];rw[HX.defers,aj]) (ao (by simp only[ab];omega)) (Gr.pre hk (fun _ _ h=>h) hg)
end
structure WT (P:Program)(K:Kn):Prop where
 mixed:P.follows .mixedOrders=true
 oct:OctT P K.tSl K.tU8
 dU8:P.underlying K.tU8=some (.int .u8)
 dI8:b7 K.tI8=true->P.underlying K.tI8=some (.int .i8)
 dI16:P.underlying K.tI16=some (.int .i16)
 dU16:b7 K.tU16=true->P.underlying K.tU16=some (.int .u16)
 dI32:P.underlying K.tI32=some (.int .i32)
 dU32:P.underlying K.tU32=some (.int .u32)
 dInt:P.underlying K.tInt=some (.int .i64)
 dI64:b7 K.tI64=true->P.underlying K.tI64=some (.int .i64)
 dU64:b7 K.tU64=true->P.underlying K.tU64=some (.int .u64)
 dStr:P.underlying K.tStr=some .string
 vStr:bc P K.tStr false 1
def zy (P:Program)(te f:Nat)(val:Value)(enc:Bs)(w:World)(L:Nat):Prop:=
 ∀ (d:Value) (bs:Bs),aA w L te d bs->L<=w.heap.size->bs.length+enc.length<=di->Calls P f #[d,val] w fun e w'=>∃ d',e=.returned d'/\Gr L te d w d' (bs++enc) w'
def ApC (P:Program)(te f:Nat)(val:Value)(enc:Bs)(w:World):Prop:=∀ L:Nat,zy P te f val enc w L
def aF:Value:=.slice none 0 0
def wx (n0:Nat)(l:List GC):Code:=(gS (aR 4 aF::l) n0).1
section
variable {P:Program} {g:G} {K:Kn}
theorem E1 (hm:P.follows .mixedOrders=true){f ntmps n0:Nat}{l:List GC}{y z:Value}{w:World}{RR:Ending->World->Prop}(hfn:FnIs P f ntmps [4] (gS l n0).1)(Iv:2<=ntmps)
  (h:∀ a,a.get 0=y->a.get 1=z->a.tmps.size=ntmps->a.defers=[]->LW P l n0 (Rt (fun _ _=>False) (fun a' w'=>a'.defers=[]/\RR (.returned (a'.get 4)) w')) a w):Calls P f #[y,z] w RR:=by
 refine hfn.calls hm (by simp) ?_
 have:=h { tmps:=#[y,z]++Array.replicate (ntmps-(#[y,z]:Array Value).size) undef,defers:=[] } (by rw[b9 _ _ _ (by simp)];rfl) (by rw[b9 _ _ _ (by simp)];rfl) (ck #[y,z] ntmps Iv) rfl
 exact lk (aY this) (fun _ _ h=>h.elim) (fun a w h=>⟨h.1,h.2⟩)
theorem ft (hm:P.follows .mixedOrders=true){f ntmps n0:Nat}{l:List GC}{y z:Value}{w:World}{RR:Ending->World->Prop}(hfn:FnIs P f ntmps [4] (wx n0 l))(Iv:5<=ntmps)
  (h:∀ a,a.get 0=y->a.get 1=z->a.tmps.size=ntmps->a.defers=[]->LW P l n0 (Rt (fun _ _=>False) (fun a' w'=>a'.defers=[]/\RR (.returned (a'.get 4)) w')) a w):Calls P f #[y,z] w RR:=by
 refine E1 hm hfn (by omega) fun a h0 h1 hs hd=>?_
 refine ad (aq (ak (wpList_nil ?_)))
 exact h _ (by rw[al (by omega)];exact h0) (by rw[al (by omega)];exact h1) (by rw[ab];exact hs) (by rw[aj];exact hd)
section
variable {te L q f m:Nat} {d val:Value} {enc bs:Bs} {args:List Operand} {ops:Array Oper} {N E:Act->World->Prop} {a:Act} {w:World}
theorem iS (hf:Ent P f)(IH:args.map a.eval=[d,val])(hc:zy P te f val enc w L)(hd:aA w L te d bs)(hL:L<=w.heap.size)(hlim:bs.length+enc.length<=di)(h4:4<a.tmps.size)(hq:q<a.tmps.size)
  (h:∀ a' w' d',a'.defers=a.defers->a'.get 4=d'->Gr L te d w d' (bs++enc) w'->E a' w') :
  wpList P ops (Exit.then (LW P [aS .ret] m (Rt N E)) (Rt N E)) [cl (some q) f args,mk (some 4) (.assign (tm q))] a w:=by
 refine aN (vs:=#[d,val]) hf (by rw[IH]) (hc d bs hd hL hlim) fun e w' hR=>?_
 obtain⟨d',he,hg⟩:=hR
 refine⟨d',he,ak (wpList_nil (ad (.ret ?_)))⟩
 rw[aa,db _ _ _ hq]
 exact h _ w' d' (by simp only[aj]) (ao (by rw[ab];exact h4)) hg
theorem dw {r:List Oper}{z:Nat}{Q:Exit->Act->World->Prop}(hf:Ent P f)(IH:args.map a.eval=[d,val])(hc:zy P te f val enc w L)(hd:aA w L te d bs)(hL:L<=w.heap.size)(hlim:bs.length+enc.length<=di)(hq:q<a.tmps.size)
  (h:∀ w' d',Gr L te d w d' (bs++enc) w'->wpList P ops Q r ((a.put (some q) d').put (some z) d') w') :
  wpList P ops Q (cl (some q) f args::mk (some z) (.assign (tm q))::r) a w:=by
 refine aN (vs:=#[d,val]) hf (by rw[IH]) (hc d bs hd hL hlim) fun e w' hR=>?_
 obtain⟨d',he,hg⟩:=hR
 refine⟨d',he,ak ?_⟩
 rw[aa,db _ _ _ hq]
 exact h w' d' hg
end
def cAU16 (K:Kn):Code:=wx 5 [gj K K.tU16 .u16 [(some 8,false),(none,false)]]
def cAU32 (K:Kn):Code:=wx 5 [gj K K.tU32 .u32 [(some 24,false),(some 16,false),(some 8,false),(none,false)]]
def gCv (A B f:Nat):List GC:=[ay 4 fun n=>[mk (some n) (.move (tm 0)),mk (some (n+1)) (.move (tm 1)),mk (some (n+2)) (.convert A B (tm (n+1))),cl (some (n+3)) f [tm n,tm (n+2)],mk (some 4) (.assign (tm (n+3)))],aS .ret]
def cACv (A B f:Nat):Code:=wx 5 (gCv A B f)
def HH (K:Kn)(f:Nat):List GC:=[ay 5 fun n=>[mk (some n) (.move (tm 0)),mk (some (n+1)) (.move (tm 1)),mk (some (n+2)) (.convert K.tInt K.tU32 (tm (n+1))),mk (some (n+3)) (.binOp .add K.tU32 (ki .u32 1) (tm (n+2)) 0),cl (some (n+4)) f [tm n,tm (n+3)],mk (some 4) (.assign (tm (n+4)))],aS .ret]
def cACv1 (K:Kn)(f:Nat):Code:=wx 5 (HH K f)
theorem zl (wt:WT P K){f ntmps tX:Nat}{k:IntKind}{es:List OE}(hX:P.underlying tX=some (.int k))(hfn:FnIs P f ntmps [4] (wx 5 [gj K tX k es]))(Iv:8+d8 es<=ntmps)(KP:es≠[])(Qo:es.length<=10){x:Int}
  (Io:∀ e∈es,e=(none,false) \/ (uk k/\0<=x/\x<2^k.bits/\∀ s,e.1=some s->s<=k.bits)) (w:World):ApC P K.tU8 f (.int k x) (bz es x) w:=by
 intro L d bs hd hL hlim
 have Ib:(bz es x).length=es.length:=by simp[bz]
 refine ft wt.mixed hfn (by omega) fun a h0 h1 hs I4=>?_
 refine ad ?_
 rw[aO]
 exact xB wt.oct hX wt.dU8 (by omega) h0 h1 Io KP Qo (by omega) hd hL (by omega) fun a' w' d' hd' h4 hg=>⟨hd'.trans I4,d',by rw[h4],hg⟩
theorem zm (wt:WT P K){f f2 ntmps A B:Nat}{kA kB:IntKind}{x:Int}{enc:Bs}{w:World}(hA:P.underlying A=some (.int kA))(hB:P.underlying B=some (.int kB))(hfn:FnIs P f ntmps [4] (cACv A B f2))(Iv:9<=ntmps)(hE:Ent P f2)(hc:ApC P K.tU8 f2 (.int kB (kB.wrap x)) enc w) :
  ApC P K.tU8 f (.int kA x) enc w:=by
 intro L d bs hd hL hlim
 refine ft wt.mixed hfn (by omega) fun a h0 h1 hs I4=>?_
 refine ad (aq (ah (ah ?_)))
 refine aL (k:=kA) (k':=kB) (m:=x) (by rw[aa,ao (by rw[ab];omega),aa,al (by omega)];exact h1) hA hB ?_
 refine iS hE ?_ (hc L) hd hL hlim (by simp only[ab];omega) (by simp only[ab];omega) fun a' w' d' hd' h4 hg=>⟨?_,d',by rw[h4],hg⟩
 ·simp only[List.map_cons,List.map_nil,aa]
  rw[al (by omega),al (by omega),ao (by omega),ao (by simp only[ab];omega),h0]
 ·rw[hd'];simp only[aj];exact I4
theorem E5 (wt:WT P K){f f2 ntmps:Nat}{x:Int}{enc:Bs}{w:World}(hfn:FnIs P f ntmps [4] (cACv1 K f2))(Iv:10<=ntmps)(hE:Ent P f2)(hc:ApC P K.tU8 f2 (.int .u32 (IntKind.u32.wrap (1+IntKind.u32.wrap x))) enc w) :
  ApC P K.tU8 f (.int .i64 x) enc w:=by
 intro L d bs hd hL hlim
 refine ft wt.mixed hfn (by omega) fun a h0 h1 hs I4=>?_
 refine ad (aq (ah (ah ?_)))
 refine aL (k:=.i64) (k':=.u32) (m:=x) (by rw[aa,ao (by rw[ab];omega),aa,al (by omega)];exact h1) wt.dInt wt.dU32 ?_
 refine co (k:=.u32) (m:=1) (n:=IntKind.u32.wrap x) (v:=.int .u32 (IntKind.u32.wrap (1+IntKind.u32.wrap x))) rfl (by rw[aa,ao (by simp only[ab];omega)]) (by simp) (by simp[binOp,Op.intArith]) ?_
 refine iS hE ?_ (hc L) hd hL hlim (by simp only[ab];omega) (by simp only[ab];omega) fun a' w' d' hd' h4 hg=>⟨?_,d',by rw[h4],hg⟩
 ·simp only[List.map_cons,List.map_nil,aa]
  rw[al (by omega),al (by omega),al (by omega),ao (by omega),ao (by simp only[ab];omega),h0]
 ·rw[hd'];simp only[aj];exact I4
theorem zf (k:Nat)(x:Int)(m:Nat)(h:k<=m):be k (x%256^m)=be k x:=by
 induction k with
 | zero=>rfl
 | succ k ih=>
  simp only[be]
  rw[ih (by omega)]
  congr 2
  have hp:(256:Int)^m=256^k*(256*256^(m-k-1)):=by
   rw[<- Int.pow_succ',<- Int.pow_add]
   congr 1;omega
  rw[hp]
  have hk:(0:Int)<256^k:=Int.pow_pos (by omega)
  have e1:x%(256^k*(256*256^(m-k-1)))=x+256^k*(-(256*(256^(m-k-1)*(x/(256^k*(256*256^(m-k-1))))))):=by
   rw[Int.emod_def,Int.mul_neg,<- Int.sub_eq_add_neg]
   simp only[Int.mul_assoc]
  rw[e1,Int.add_mul_ediv_left _ _ (by omega)]
  generalize 256^(m-k-1)*(x/(256^k*(256*256^(m-k-1))))=t
  generalize x/256^k=y
  congr 1
  omega
theorem HE (x:Int):bz [(some 8,false),(none,false)] x=be 2 x:=by simp[bz,jF,be]
theorem G0 (x:Int):bz [(some 24,false),(some 16,false),(some 8,false),(none,false)] x=be 4 x:=by simp[bz,jF,be]
end
def H1:Nat->Nat->Nat
 | 0,_=>0
 | f+1,x=>if x=0 then 0 else H1 f (x/2)+1
def kc:List UInt8:=(List.range 256).map fun i=>UInt8.ofNat (H1 9 i)
def uvT (n:Nat):UInt8:=UInt8.ofNat (if n=0 then 1 else if n<=64 then(n+6)/7 else 0)
def mg:List UInt8:=(List.range 256).map uvT
def strV (l:List UInt8):Value:=.string ⟨l.toArray⟩
def cLen32 (K:Kn)(tU:Nat):Code:=(gS [aR 2 (.int .i64 0),
 dM 1 2 (fun n=>[mk (some n) (.move (tm 0)),mk (some (n+1)) (.binOp .geq tU (tm n) (ki .u32 65536) 0)])
  (gS [ay 2 fun n=>[mk (some n) (.move (tm 0)),mk (some (n+1)) (.binOp .shr tU (tm n) (ki .u64 16) 0),mk (some 0) (.assign (tm (n+1)))],aR 2 (.int .i64 16)]) bp,
 dM 1 2 (fun n=>[mk (some n) (.move (tm 0)),mk (some (n+1)) (.binOp .geq tU (tm n) (ki .u32 256) 0)])
  (gS [ay 2 fun n=>[mk (some n) (.move (tm 0)),mk (some (n+1)) (.binOp .shr tU (tm n) (ki .u64 8) 0),mk (some 0) (.assign (tm (n+1)))],
   ay 2 fun n=>[mk (some n) (.move (tm 2)),mk (some (n+1)) (.binOp .add K.tInt (tm n) (ki .i64 8) 0),mk (some 2) (.assign (tm (n+1)))]]) bp,
 ay 6 fun n=>[mk (some n) (.move (tm 2)),mk (some (n+1)) (.move (tm 0)),mk (some (n+2)) (.convert tU K.tU8 (tm (n+1))),mk (some (n+3)) (.index K.tStr (.const (strV kc)) (tm (n+2))),mk (some (n+4)) (.convert K.tU8 K.tInt (tm (n+3))),
  mk (some (n+5)) (.binOp .add K.tInt (tm n) (tm (n+4)) 0),mk (some 2) (.assign (tm (n+5)))],aS .ret] 3).1
def cUvLen (K:Kn)(f:Nat):Code:=(gS [aR 2 (.int .i64 0),ay 5 fun n=>[mk (some n) (.move (tm 0)),cl (some (n+1)) f [tm n],mk (some (n+2)) (.convert K.tInt K.tU8 (tm (n+1))),mk (some (n+3)) (.index K.tStr (.const (strV mg)) (tm (n+2))),
 mk (some (n+4)) (.convert K.tU8 K.tInt (tm (n+3))),mk (some 2) (.assign (tm (n+4)))],aS .ret] 3).1
def xd:List (Nat × List OE):=[(5,[(none,true),(some 7,true),(some 14,true),(some 21,true),(some 28,false)]),(4,[(none,true),(some 7,true),(some 14,true),(some 21,false)]),(3,[(none,true),(some 7,true),(some 14,false)]),(2,[(none,true),(some 7,false)]),(1,[(none,false)])]
def eM (K:Kn):List (Nat × List OE)->Nat->Code × Nat
 | [],n=>(.skip,n)
 | (j,es)::r,n=>(.seq (rg [mk (some (n+1)) (.binOp .eql K.tInt (tm 6) (ki .i64 j) 0),mk (some n) (.assign (tm (n+1)))]) (.cond (tm n) (gj K K.tU32 .u32 es (n+2)).1 (eM K r (gj K K.tU32 .u32 es (n+2)).2).1),(eM K r (gj K K.tU32 .u32 es (n+2)).2).2)
def cAUv (K:Kn)(f:Nat):Code:=wx 5 [gS [ay 2 fun n=>[mk (some n) (.move (tm 1)),cl (some (n+1)) f [tm n]],fun n=>(.block 0 (eM K xd n).1,(eM K xd n).2)],
 ay 1 fun n=>[mk (some n) (.move (tm 0)),mk (some 4) (.assign (tm n))],aS .ret]
def oH (x:Nat):Nat:=if x<128 then 1 else if x<16384 then 2 else if x<2097152 then 3 else if x<268435456 then 4 else 5
def jp (x:Nat):Nat × Nat:=if 65536<=x then(x/65536,16) else(x,0)
def gV (p:Nat × Nat):Nat × Nat:=if 256<=p.1 then(p.1/256,p.2+8)else p
def y6 (x:Nat):Nat:=(gV (jp x)).2+(kc.getD (gV (jp x)).1 0).toNat
theorem u0:∀ y,y<256->(kc.getD y 0).toNat<=8/\y<2^(kc.getD y 0).toNat/\((kc.getD y 0).toNat=0 \/ 2^((kc.getD y 0).toNat-1)<=y):=by decide +kernel
theorem uU:∀ n,n<33->(mg.getD n 0).toNat=if n=0 then 1 else(n+6)/7:=by decide +kernel
theorem B0 {x:Nat}(h:x<4294967296):y6 x<33/\(mg.getD (y6 x) 0).toNat=oH x:=by
 have hb:(gV (jp x)).1<256:=by
  simp only[gV,jp];split<;>split<;>simp<;>omega
 obtain⟨h1,h2,h3⟩:=u0 _ hb
 have hx:y6 x<33:=by
  simp only[y6]
  have:(gV (jp x)).2<=24:=by simp only[gV,jp];split<;>split<;>simp
  omega
 refine⟨hx,?_⟩
 rw[uU _ hx]
 generalize ht:(kc.getD (gV (jp x)).1 0).toNat=t at h1 h2 h3
 have hl:y6 x=(gV (jp x)).2+t:=by simp only[y6,ht]
 rw[hl]
 clear hl hx ht
 simp only[gV,jp,oH]at *
 by_cases c1:65536<=x
 ·simp only[if_pos c1]at *
  by_cases c2:256<=x/65536
  ·simp only[if_pos c2]at *
   rcases(show t=0 \/ t=1 \/ t=2 \/ t=3 \/ t=4 \/ t=5 \/ t=6 \/ t=7 \/ t=8 by omega)with rfl|rfl|rfl|rfl|rfl|rfl|rfl|rfl|rfl<;>simp at h2 h3 ⊢<;>(repeat' split)<;>omega
  ·simp only[if_neg c2]at *
   rcases(show t=0 \/ t=1 \/ t=2 \/ t=3 \/ t=4 \/ t=5 \/ t=6 \/ t=7 \/ t=8 by omega)with rfl|rfl|rfl|rfl|rfl|rfl|rfl|rfl|rfl<;>simp at h2 h3 ⊢<;>(repeat' split)<;>omega
 ·simp only[if_neg c1]at *
  by_cases c2:256<=x
  ·simp only[if_pos c2]at *
   rcases(show t=0 \/ t=1 \/ t=2 \/ t=3 \/ t=4 \/ t=5 \/ t=6 \/ t=7 \/ t=8 by omega)with rfl|rfl|rfl|rfl|rfl|rfl|rfl|rfl|rfl<;>simp at h2 h3 ⊢<;>(repeat' split)<;>omega
  ·simp only[if_neg c2]at *
   rcases(show t=0 \/ t=1 \/ t=2 \/ t=3 \/ t=4 \/ t=5 \/ t=6 \/ t=7 \/ t=8 by omega)with rfl|rfl|rfl|rfl|rfl|rfl|rfl|rfl|rfl<;>simp at h2 h3 ⊢<;>(repeat' split)<;>omega
theorem zB {x:Nat}(h:x<4294967296):∃ es,xd.lookup (oH x)=some es/\bz es x=uvar x:=by
 have d:∀ (a b:Nat),((x:Int)/(2:Int)^a)=((x/2^a:Nat):Int):=fun a _=>by push_cast;rfl
 simp only[oH]
 by_cases c1:x<128
 ·rw[if_pos c1]
  refine⟨_,rfl,?_⟩
  have e:((x:Int)%256).toNat=x:=by omega
  simp[bz,jF,uvar,c7,c1,e]
 rw[if_neg c1]
 by_cases c2:x<16384
 ·rw[if_pos c2]
  refine⟨_,rfl,?_⟩
  have d1:x/128<128:=by omega
  have e0:((x:Int)%128+128).toNat=x%128+128:=by omega
  have e1:((x:Int)/128%256).toNat=x/128:=by omega
  simp[bz,jF,uvar,c7,c1,d1,e0,e1]
 rw[if_neg c2]
 by_cases c3:x<2097152
 ·rw[if_pos c3]
  refine⟨_,rfl,?_⟩
  have d1:¬ x/128<128:=by omega
  have d2:x/128/128<128:=by omega
  have e0:((x:Int)%128+128).toNat=x%128+128:=by omega
  have e1:((x:Int)/128%128+128).toNat=x/128%128+128:=by omega
  have e2:((x:Int)/16384%256).toNat=x/128/128:=by omega
  simp[bz,jF,uvar,c7,c1,d1,d2,e0,e1,e2]
 rw[if_neg c3]
 by_cases c4:x<268435456
 ·rw[if_pos c4]
  refine⟨_,rfl,?_⟩
  have d1:¬ x/128<128:=by omega
  have d2:¬ x/128/128<128:=by omega
  have d3:x/128/128/128<128:=by omega
  have e0:((x:Int)%128+128).toNat=x%128+128:=by omega
  have e1:((x:Int)/128%128+128).toNat=x/128%128+128:=by omega
  have e2:((x:Int)/16384%128+128).toNat=x/128/128%128+128:=by omega
  have e3:((x:Int)/2097152%256).toNat=x/128/128/128:=by omega
  simp[bz,jF,uvar,c7,c1,d1,d2,d3,e0,e1,e2,e3]
 rw[if_neg c4]
 refine⟨_,rfl,?_⟩
 have d1:¬ x/128<128:=by omega
 have d2:¬ x/128/128<128:=by omega
 have d3:¬ x/128/128/128<128:=by omega
 have d4:x/128/128/128/128<128:=by omega
 have e0:((x:Int)%128+128).toNat=x%128+128:=by omega
 have e1:((x:Int)/128%128+128).toNat=x/128%128+128:=by omega
 have e2:((x:Int)/16384%128+128).toNat=x/128/128%128+128:=by omega
 have e3:((x:Int)/2097152%128+128).toNat=x/128/128/128%128+128:=by omega
 have e4:((x:Int)/268435456%256).toNat=x/128/128/128/128:=by omega
 simp[bz,jF,uvar,c7,c1,d1,d2,d3,d4,e0,e1,e2,e3,e4]
def CQ (K:Kn)(c:Int)(r:Nat):List GC:=[ay 3 fun n=>[mk (some n) (.move (tm 0)),mk (some (n+1)) (.buildSlice K.tSl 1 #[(0,ki .u8 c)]),bi (some (n+2)) .append [tm n,tm (n+1)] [K.tSl,K.tSl] K.tSl,mk (some r) (.assign (tm (n+2)))],aS .ret]
def cABool (K:Kn):Code:=wx 5 ([dM 0 1 (fun n=>[mk (some n) (.move (tm 1))]) (gS (CQ K 1 4)) bp]++CQ K 0 4)
def cAUuid (K:Kn):Code:=sq [rg [mk (some 3) (.box K.tUuid (tm 1)),mk (some 4) (.assign (.const aF))],
 rg [mk (some 5) (.move (tm 0)),mk (some 6) (.slice K.tUuid (tm 3) none none none),bi (some 7) .append [tm 5,tm 6] [K.tSl,K.tSl] K.tSl,mk (some 4) (.assign (tm 7))],.ret]
def ql (K:Kn)(tX:Nat):List GC:=[ay 3 fun n=>[mk (some n) (.move (tm 0)),mk (some (n+1)) (.move (tm 1)),bi (some (n+2)) .append [tm n,tm (n+1)] [K.tSl,tX] K.tSl,mk (some 4) (.assign (tm (n+2)))],aS .ret]
def cAStr (K:Kn)(tX tI f:Nat):Code:=wx 5 ((ay 5 fun n=>[mk (some n) (.move (tm 0)),mk (some (n+1)) (.move (tm 1)),bi (some (n+2)) .len [tm (n+1)] [tX] K.tInt,mk (some (n+3)) (.convert K.tInt tI (tm (n+2))),cl (some (n+4)) f [tm n,tm (n+3)],mk (some 0) (.assign (tm (n+4)))])::ql K tX)
def cACStr (K:Kn)(tX f:Nat):Code:=wx 5 ((ay 6 fun n=>[mk (some n) (.move (tm 0)),mk (some (n+1)) (.move (tm 1)),bi (some (n+2)) .len [tm (n+1)] [tX] K.tInt,mk (some (n+3)) (.convert K.tInt K.tU32 (tm (n+2))),mk (some (n+4)) (.binOp .add K.tU32 (ki .u32 1) (tm (n+3)) 0),
 cl (some (n+5)) f [tm n,tm (n+4)],mk (some 0) (.assign (tm (n+5)))])::ql K tX)
def tc (T:Nat)(z c:Value)(f:Nat):GC:=dM 1 2 (fun n=>[mk (some n) (.move (tm 1)),mk (some (n+1)) (.binOp .eql T (tm n) (.const z) 0)])
 (gS [ay 2 fun n=>[mk (some n) (.move (tm 0)),cl (some (n+1)) f [tm n,.const c],mk (some 4) (.assign (tm (n+1)))],aS .ret]) bp
def cANStr (K:Kn)(tP:Nat)(c:Value)(f f2:Nat):Code:=wx 5 [tc tP (.pointer none) c f,
 ay 5 fun n=>[mk (some n) (.move (tm 0)),mk (some (n+1)) (.move (tm 1)),mk (some (n+2)) (.nilCheck (tm (n+1))),mk (some (n+3)) (.load K.tStr (tm (n+2))),cl (some (n+4)) f2 [tm n,tm (n+3)],mk (some 4) (.assign (tm (n+4)))],aS .ret]
def u5 (c:Value)(f:Nat):GC:=dM 0 1 (fun n=>[mk (some n) (.move (tm 2))]) (gS [ay 2 fun n=>[mk (some n) (.move (tm 0)),cl (some (n+1)) f [tm n,.const c],mk (some 6) (.assign (tm (n+1)))],aS .ret]) bp
def cANLen (K:Kn)(f:Nat):Code:=(gS [aR 6 aF,u5 (.int .i32 (-1)) f,ay 4 fun n=>[mk (some n) (.move (tm 0)),mk (some (n+1)) (.move (tm 1)),mk (some (n+2)) (.convert K.tInt K.tI32 (tm (n+1))),cl (some (n+3)) f [tm n,tm (n+2)],mk (some 6) (.assign (tm (n+3)))],aS .ret] 7).1
def cACNLen (K:Kn)(f:Nat):Code:=(gS [aR 6 aF,u5 (.int .u32 0) f,ay 5 fun n=>[mk (some n) (.move (tm 0)),mk (some (n+1)) (.move (tm 1)),mk (some (n+2)) (.convert K.tInt K.tU32 (tm (n+1))),mk (some (n+3)) (.binOp .add K.tU32 (ki .u32 1) (tm (n+2)) 0),
 cl (some (n+4)) f [tm n,tm (n+3)],mk (some 6) (.assign (tm (n+4)))],aS .ret] 7).1
def cTLen (K:Kn)(tTags tM:Nat):Code:=(gS [aR 2 (.int .i64 0),ay 5 fun n=>[mk (some n) (.move (tm 0)),mk (some (n+1)) (.nilCheck (tm n)),mk (some (n+2)) (.fieldAddr tTags (tm (n+1)) 0),mk (some (n+3)) (.load tM (tm (n+2))),bi (some (n+4)) .len [tm (n+3)] [tM] K.tInt,mk (some 2) (.assign (tm (n+4)))],aS .ret] 3).1
def jO (p:PF)(cs:List Value)(val:Value):Prop:=if p=.uuid then val=.agg cs.toArray else cs=[val]
def pv:Option cY->Int->Value
 | some p,x=>.int p.kind x
 | none,_=>.string ⟨#[]⟩
def mL:Option cY->Value->Prop
 | some p,y=>∃ x,y=.int p.kind x
 | none,y=>∃ l:Bs,y=.string ⟨l.toArray⟩
def qV:Option cY->Int->Value->Bool
 | some _,df,.int _ x=>x==df
 | none,_,.string b=>b.data.toList.isEmpty
 | _,_,_=>false
structure SmC (P:Program)(s:Sm):Prop where
 var:bc P s.F true s.sz
 zC:∃ z:Value,z.cells.size=s.sz/\∀ w,(zeroValue s.F).run P w=.ok z w
 dE:Ent P s.fDef
 dC:∀ w:World,Calls P s.fDef ([]:List Value).toArray w fun e w'=>ac (fun _=>False) w w'/\∃ z:List Value,e=.returned (.agg z.toArray)/\z.length=s.sz/\z[s.toff]?=some (.map none)/\∀ q∈s.ds,z[q.1]?=some (pv q.2.1 q.2.2)
 sE:Ent P s.fSame
 sC:∀ (w:World) (x z:List Value) (m:Option Nat),x.length=s.sz->z.length=s.sz->x[s.toff]?=some (.map m)->z[s.toff]?=some (.map none)->(∀ q∈s.ds,z[q.1]?=some (pv q.2.1 q.2.2))->(∀ q∈s.ds,∃ y,x[q.1]?=some y/\mL q.2.1 y) ->
  Calls P s.fSame ([.agg x.toArray,.agg z.toArray]:List Value).toArray w fun e w'=>ac (fun _=>False) w w'/\e=.returned (.bool ((s.ds.all fun q=>qV q.2.1 q.2.2 ((x[q.1]?).getD undef))&&m.isNone))
structure KW (P:Program)(g:GW)(av:PF->Bool)(fl nl:Bool)(te:Nat):Prop where
 mixed:P.follows .mixedOrders=true
 oct:OctT P g.tSl te
 dInt:P.underlying g.tInt=some (.int .i64)
 dU32:fl=true->P.underlying g.tU32=some (.int .u32)
 apE:∀ p,av p=true->Ent P (g.ap p)
 apC:∀ p,av p=true->∀ (w:World) (L:Nat) (cs:List Value) (val:Value) (v:V),gT w (fun k=>L<=k) (gK p) cs v->jO p cs val->zy P te (g.ap p) val (p.wr v) w L
 alE:b7 g.alen=true->Ent P g.alen
 alC:b7 g.alen=true->∀ (n:Nat) (w:World),ApC P te g.alen (.int .i64 n) (be 4 n) w
 clE:fl=true->b7 g.calen=true->Ent P g.calen
 clC:fl=true->b7 g.calen=true->∀ (n:Nat) (w:World),ApC P te g.calen (.int .i64 n) (uvar (dj (n+1))) w
 nlE:nl=true->Ent P g.nalen
 nlC:nl=true->∀ (n:Nat) (b:Bool) (w:World) (L:Nat) (d:Value) (bs:Bs),aA w L te d bs->L<=w.heap.size->bs.length+(if b then cf false 4 else fe false n).length<=di ->
  Calls P g.nalen #[d,.int .i64 n,.bool b] w fun e w'=>∃ d',e=.returned d'/\Gr L te d w d' (bs++(if b then cf false 4 else fe false n)) w'
 cnE:nl=true->fl=true->Ent P g.cnalen
 cnC:nl=true->fl=true->∀ (n:Nat) (b:Bool) (w:World) (L:Nat) (d:Value) (bs:Bs),aA w L te d bs->L<=w.heap.size->bs.length+(if b then cf true 4 else fe true n).length<=di ->
  Calls P g.cnalen #[d,.int .i64 n,.bool b] w fun e w'=>∃ d',e=.returned d'/\Gr L te d w d' (bs++(if b then cf true 4 else fe true n)) w'
 uvE:fl=true->Ent P g.uv
 uvC:fl=true->∀ (x:Nat) (w:World),x<4294967296->ApC P te g.uv (.int .u32 x) (uvar x) w
 tlE:fl=true->Ent P g.tlen
 tlC:fl=true->∀ (w:World) (b o:Nat) (m:Value) (X:Nat->Prop) (t:List (Nat × Bs)),w.cell? ⟨b,o,none⟩=some m->cF w X m t->Calls P g.tlen #[pt b o] w fun e w'=>e=.returned (.int .i64 t.length)/\ac (fun _=>False) w w'
 teE:fl=true->Ent P g.teach
 teC:fl=true->∀ (w:World) (b o:Nat) (m:Value) (L:Nat) (t:List (Nat × Bs)) (d:Value) (bs:Bs),w.cell? ⟨b,o,none⟩=some m->(b<w.heap.size/\d.ownBlock≠some b)->cF w (fun k=>L<=k) m t->aA w L te d bs->L<=w.heap.size->bs.length+(bQ t).length<=di ->
  Calls P g.teach #[pt b o,d] w fun e w'=>∃ d',e=.returned d'/\Gr L te d w d' (bs++bQ t) w'
 smC:∀ s∈g.sm,SmC P s
 uuid:av .uuid=true->bc P g.tUuid true 16/\∀ w,(zeroValue g.tUuid).run P w=.ok (.agg (Array.replicate 16 (.int .u8 0))) w
structure mc (cx:Cx)(m k0:Nat):Prop where
 s:cx.s<m/\cx.s≠1
 ver:cx.ver<m/\cx.ver≠1
 fx:cx.fx<m/\cx.fx≠1
 one:1<m
 le:m<=k0
structure WC (cx:Cx)(fx:Bool)(ver:Int)(te L B O:Nat)(d:Value)(bs:Bs)(a:Act)(w:World):Prop where
 dst:aA w L te d bs
 s1:a.get 1=d
 ss:a.get cx.s=pt B O
 sv:a.get cx.ver=.int .i16 ver
 sf:cx.hf=true->a.get cx.fx=.bool fx
 nf:cx.hf=false->fx=false
 BL:B<L
 Lw:L<=w.heap.size
section
variable {P:Program} {g:GW} {av:PF->Bool} {fl nl:Bool} {te:Nat} {cx:Cx} {fx:Bool} {ver:Int} {L B O m k0 n:Nat} {d:Value} {bs:Bs} {K N E:Act->World->Prop} {Q:Exit->Act->World->Prop} {a:Act} {w:World}
theorem WC.step {d':Value}{bs':Bs}{a':Act}{w':World}(h:WC cx fx ver te L B O d bs a w)(hc:mc cx m k0)(hp:Pv 1 m k0 n a a')(h1:a'.get 1=d')(hg:Gr L te d w d' bs' w'):WC cx fx ver te L B O d' bs' a' w':=
 ⟨hg.dst,h1,by rw[hp.get _ hc.s.2 (.inl hc.s.1)];exact h.ss,by rw[hp.get _ hc.ver.2 (.inl hc.ver.1)];exact h.sv,fun hf=>by rw[hp.get _ hc.fx.2 (.inl hc.fx.1)];exact h.sf hf,h.nf,h.BL,Nat.le_trans h.Lw hg.keeps.size⟩
theorem WC.at {s B' O':Nat}{a':Act}(h:WC cx fx ver te L B O d bs a w)(hc:mc cx m k0)(hp:Pv 1 m k0 n a a')(h1:a'.get 1=d)(hs:a'.get s=pt B' O')(hB:B'<L):WC { cx with s:=s } fx ver te L B' O' d bs a' w:=
 ⟨h.dst,h1,hs,by rw[hp.get _ hc.ver.2 (.inl hc.ver.1)];exact h.sv,fun hf=>by rw[hp.get _ hc.fx.2 (.inl hc.fx.1)];exact h.sf hf,h.nf,hB,h.Lw⟩
theorem mc.at {s m':Nat}(h:mc cx m k0)(hs:m<=s/\s<m')(hm:m<=m')(hk:m'<=k0):mc { cx with s:=s } m' k0:=
 ⟨⟨hs.2,by have:=h.one;show s≠1;omega⟩,⟨Nat.lt_of_lt_of_le h.ver.1 hm,h.ver.2⟩,⟨Nat.lt_of_lt_of_le h.fx.1 hm,h.fx.2⟩,Nat.lt_of_lt_of_le h.one hm,hk⟩
theorem mc.mono {m':Nat}(h:mc cx m k0)(hm:m<=m')(hk:m'<=k0):mc cx m' k0:=
 ⟨⟨by have:=h.s;omega,h.s.2⟩,⟨by have:=h.ver;omega,h.ver.2⟩,⟨by have:=h.fx;omega,h.fx.2⟩,by have:=h.one;omega,hk⟩
theorem pE {f v:Nat}{val:Value}{enc:Bs}(hE:Ent P f)(hc:zy P te f val enc w L)(h1:a.get 1=d)(hv:a.get v=val)(MI:v<n)(hd:aA w L te d bs)(hL:L<=w.heap.size)(hlim:bs.length+enc.length<=di)(hm:m<=k0)(hk:k0<=n)(_h1m:1<n)(hn:n+3<=a.tmps.size)
  (h:∀ a' w' d',Pv 1 m k0 n a a'->a'.get 1=d'->Gr L te d w d' (bs++enc) w'->K a' w'):aK P (bv f v n).1 (Exit.then K Q) a w:=by
 refine aq (ah (ah (dw hE ?_ hc hd hL hlim (by simp only[ab];omega) fun w' d' hg=>wpList_nil (h _ w' d' ?_ (ao (by simp only[ab];omega)) hg))))
 ·simp only[List.map_cons,List.map_nil,aa]
  rw[al (by omega),ao (by omega),ao (by simp only[ab];omega),al (by omega),h1,hv]
 ·exact((((Pv.refl _ _ _ _ _).put _ (by omega)).put _ (by omega)).put _ (by omega)).put _ (.inl rfl)
theorem ui {f v p:Nat}{cs:List Value}{enc:Bs}(hV:bc P g.tUuid true 16)(hE:Ent P f)(hc:zy P te f (.agg cs.toArray) enc w L)(h1:a.get 1=d)(hv:a.get v=pt p 0)(Iz:au w p 0 cs)(hl:cs.length=16)(MI:v<n)(hd:aA w L te d bs)(hL:L<=w.heap.size)(hlim:bs.length+enc.length<=di)(hm:m<=k0)(hk:k0<=n)(Jm:1<n)(hn:n+3<=a.tmps.size)
  (h:∀ a' w' d',Pv 1 m k0 n a a'->a'.get 1=d'->Gr L te d w d' (bs++enc) w'->K a' w'):aK P (tb g f v n).1 (Exit.then K Q) a w:=by
 refine aq (ah (eC (b:=p) (o:=0) (cs:=cs) (by rw[aa,al (by omega)];exact hv) (hV.agg w) (by rw[hl];exact hV.size w) Iz (dw hE ?_ hc hd hL hlim (by simp only[ab];omega) fun w' d' hg=>wpList_nil (h _ w' d' ?_ (ao (by simp only[ab];omega)) hg))))
 ·simp only[List.map_cons,List.map_nil,aa]
  rw[al (by omega),ao (by omega),ao (by simp only[ab];omega),h1]
 ·exact((((Pv.refl _ _ _ _ _).put _ (by omega)).put _ (by omega)).put _ (by omega)).put _ (.inl rfl)
theorem xx {A C:GC}(hA:Up A)(hC:Up C)(hw:WC cx fx ver te L B O d bs a w)(hc:mc cx m k0)(hk:k0<=n)(hn:(de cx A C n).2<=a.tmps.size)(Kf:n<a.tmps.size)
  (h:∀ (a':Act) (n':Nat),Pv 1 m k0 n a a'->a'.get 1=d->(∀ s,s<n->a'.get s=a.get s)->n<=n'->((if fx then A else C) n').2<=a.tmps.size->aK P ((if fx then A else C) n').1 Q a' w):aK P (de cx A C n).1 Q a w:=by
 have Iq:=hc.le
 have h1:=hc.one
 unfold de at hn ⊢
 cases hf:cx.hf with
 | false=>
  rw[hf]at hn
  simp only[Bool.false_eq_true,if_false]at hn ⊢
  have J8:=hw.nf hf
  subst J8
  exact h a n (Pv.refl _ _ _ _ _) hw.s1 (fun _ _=>rfl) (Nat.le_refl _) hn
 | true=>
  rw[hf]at hn
  simp only[if_true]at hn ⊢
  have hn':(C (A (n+1)).2).2<=a.tmps.size:=hn
  have u1:=hA (n+1)
  have u2:=hC (A (n+1)).2
  refine o5 (x:=n) (m:=k0) (k0:=k0) (hw.sf hf) (Nat.le_refl _) hk Kf fun a' hp=>?_
  have I3:Pv 1 m k0 n a a':=⟨hp.size,hp.defers,fun s hs Iw=>hp.get s (by omega) (by omega)⟩
  have h1':a'.get 1=d:=by rw[hp.get 1 (by omega) (.inl (by omega))];exact hw.s1
  have Ik:∀ s,s<n->a'.get s=a.get s:=fun s hs=>hp.get s (by omega) (by omega)
  cases fx with
  | true=>exact h a' (n+1) I3 h1' Ik (by omega) (by simp only[if_true];omega)
  | false=>exact h a' (A (n+1)).2 I3 h1' Ik (by omega) (by simpa using hn')
theorem BK {v i b1 b2 F E' len c:Nat}{base:Option Addr}{body:List GC}(hv:a.get v=.slice base len c)(hF:P.underlying F=some (.slice E'))(hi:m<=i/\i<k0)(_hvi:v<i)(h1i:1<i)(hk:k0<=n)(hn:(fU g v i b1 b2 F body n).2<=a.tmps.size)(JE:n+5<=(gS body (n+5)).2)
  (Ib:len<=maxLen) (W:Nat->Value->World->Prop) (h0:W 0 (a.get 1) w)
  (ID:∀ (j:Nat) (a1:Act) (w1:World),j<len->Pv 1 i k0 n a a1->a1.get i=.int .i64 j->W j (a1.get 1) w1->aK P (gS body (n+5)).1 (Rt (fun a2 w2=>Pv 1 (i+1) k0 (n+5) a1 a2/\W (j+1) (a2.get 1) w2) E) a1 w1)
  (NN:∀ a1 w1,Pv 1 i k0 n a a1->W len (a1.get 1) w1->K a1 w1):aK P (fU g v i b1 b2 F body n).1 (Rt K E) a w:=by
 have hn':(gS body (n+5)).2+1<=a.tmps.size:=hn
 unfold fU
 generalize hz:(gS body (n+5)).2=z at hn' JE
 refine .seq (R:=Rt (fun a' w'=>Pv 1 i k0 n a a'/\a'.get (n+1)=.int .i64 (len:Int)/\a'.get (n+2)=.int .i64 ((0:Nat):Int)/\a'.get 1=a.get 1/\w'=w) E) (.reg (ah ?_)) (fun a' w' hh=>?_) (fun e a w he hq=>by cases e<;>first|exact absurd rfl he|exact hq)
 ·rw[aa,hv]
  refine dV (base:=base) (n:=len) (c:=c) (by rw[aa,ao (by omega)]) hF (ah (wpList_nil ⟨?_,?_,?_,?_,rfl⟩))
  ·exact(((Pv.refl _ _ _ _ _).put _ (by omega)).put _ (by omega)).put _ (by omega)
  ·rw[al (by omega),ao (by simp only[ab];omega)]
  ·rw[ao (by simp only[ab];omega)];rfl
  ·rw[al (by omega),al (by omega),al (by omega)]
 ·obtain⟨hp,MA,Qh,Ig,rfl⟩:=hh
  refine .block (.loop (fun a1 w1=>∃ j:Nat,j<=len/\Pv 1 i k0 n a a1/\a1.get (n+1)=.int .i64 (len:Int)/\a1.get (n+2)=.int .i64 (j:Int)/\W j (a1.get 1) w1) (fun a1 _=>((len:Int)-(match a1.get (n+2)with|.int _ q=>q|_=>0)).toNat) ⟨0,by omega,hp,MA,Qh,by rw[Ig];exact h0⟩ ?_)
  rintro a1 w1 ⟨j,hj,HX,NJ,L7,hW⟩
  have If:=HX.size
  have Ip:∀ (b:Bool),b=decide ((j:Int)<(len:Int))->wpList P [mk (some (n+3)) (.binOp .lss g.tInt (tm (n+2)) (tm (n+1)) 0)].toArray
    (Rt (fun a' w'=>a'.eval (tm (n+3))=.bool b/\a'=a1.put (some (n+3)) (.bool b)/\w'=w1) E) [mk (some (n+3)) (.binOp .lss g.tInt (tm (n+2)) (tm (n+1)) 0)] a1 w1:=by
   intro b hb
   refine bk (b:=b) (p:=j) (q:=len) (k:=.i64) L7 NJ (.inr (.inr (.inl ⟨rfl,hb⟩))) (wpList_nil ?_)
   exact⟨by rw[aa,ao (by omega)],rfl,rfl⟩
  by_cases Id:j<len
  ·refine .seq (R:=Rt (fun a' w'=>a'.eval (tm (n+3))=.bool true/\a'=a1.put (some (n+3)) (.bool true)/\w'=w1) E) (.reg (Ip true (by simp[Id]))) (fun a2 w2 hh=>?_) (fun e a w he hq=>by cases e<;>first|exact absurd rfl he|exact hq|exact hq.elim)
   obtain⟨Kr,rfl,rfl⟩:=hh
   refine .seq (R:=Rt (fun a' w'=>a'=a1.put (some (n+3)) (.bool true)/\w'=w2) E) (.condT Kr (.skip ⟨rfl,rfl⟩)) (fun a2 w3 hh=>?_) (fun e a w he hq=>by cases e<;>first|exact absurd rfl he|exact hq|exact hq.elim)
   obtain⟨rfl,rfl⟩:=hh
   refine .seq (R:=Rt (fun a3 w3=>Pv 1 i k0 n a a3/\a3.get (n+1)=.int .i64 (len:Int)/\a3.get (n+2)=.int .i64 (j:Int)/\W (j+1) (a3.get 1) w3) E) (.block (.seq (R:=Rt (fun a3 w4=>Pv 1 i k0 n a a3/\a3.get (n+1)=.int .i64 (len:Int)/\a3.get (n+2)=.int .i64 (j:Int)/\a3.get i=.int .i64 (j:Int)/\W j (a3.get 1) w4) E) (.reg (ah ?_)) (fun a3 w4 hh=>?_) (fun e a w he hq=>by cases e<;>first|exact absurd rfl he|exact hq|exact hq.elim)))
    (fun a3 w4 hh=>?_) (fun e a w he hq=>by cases e<;>first|exact absurd rfl he|exact hq|exact hq.elim)
   ·rw[aa,al (by omega),L7]
    refine ak (wpList_nil ⟨?_,?_,?_,?_,?_⟩)
    ·exact((HX.put _ (by omega)).put _ (by omega)).put _ (by omega)
    ·rw[al (by omega),al (by omega),al (by omega)];exact NJ
    ·rw[al (by omega),al (by omega),al (by omega)];exact L7
    ·rw[ao (by simp only[ab];omega),aa,ao (by simp only[ab];omega)]
    ·rw[al (by omega),al (by omega),al (by omega)];exact hW
   ·obtain⟨Ie,Ms,Mt,V7,M2⟩:=hh
    refine .mono (ID j a3 w4 Id Ie V7 M2) fun e a4 w5 hq=>?_
    cases e<;>first|exact hq.elim|skip
    ·obtain⟨Ix,hW4⟩:=hq
     exact⟨Ie.trans (Ix.mono (by omega) (by omega)),by rw[Ix.get _ (by omega) (.inr (by omega))];exact Ms,by rw[Ix.get _ (by omega) (.inr (by omega))];exact Mt,hW4⟩
    ·exact hq
   ·obtain⟨Ie,Ms,Mt,M2⟩:=hh
    have IJ:=Ie.size
    have IR:IntKind.i64.wrap ((j:Int)+1)=((j+1:Nat):Int):=by simp only[maxLen]at Ib;simp[IntKind.wrap,IntKind.bits,IntKind.signed];omega
    refine .reg (co (v:=.int .i64 ((j+1:Nat):Int)) (k:=.i64) (m:=j) (n:=1) Mt rfl (by simp) (by simp[binOp,Op.intArith,IR]) (ah (wpList_nil ?_)))
    rw[aa,ao (by omega)]
    have Ko:((a3.put (some z) (.int .i64 ((j+1:Nat):Int))).put (some (n+2)) (.int .i64 ((j+1:Nat):Int))).get (n+2)=.int .i64 ((j+1:Nat):Int):=ao (by simp only[ab];omega)
    refine⟨⟨j+1,by omega,(Ie.put _ (by omega)).put _ (by omega),?_,Ko,?_⟩,?_⟩
    ·rw[al (by omega),al (by omega)];exact Ms
    ·rw[al (by omega),al (by omega)];exact M2
    ·rw[Ko,L7]
     simp only
     omega
  ·have Sf:j=len:=by omega
   subst Sf
   refine .seq (R:=Rt (fun a' w'=>a'.eval (tm (n+3))=.bool false/\a'=a1.put (some (n+3)) (.bool false)/\w'=w1) E) (.reg (Ip false (by simp))) (fun a2 w2 hh=>?_) (fun e a w he hq=>by cases e<;>first|exact absurd rfl he|exact hq|exact hq.elim)
   obtain⟨Kr,rfl,rfl⟩:=hh
   refine .seq (R:=fun e a w=>e≠.normal/\Exit.inBlock b1 (Rt K E) e a w) (.condF Kr (.exit ?_)) (fun a2 w2 hh=>absurd rfl hh.1) (fun e a w he hq=>?_)
   ·simp only[Exit.inBlock,if_true]
    refine⟨by simp,NN _ _ (HX.put _ (by omega)) ?_⟩
    rw[al (by omega)];exact hW
   ·rw[cq he];exact hq.2
end
section
open Go
set_option maxRecDepth 100000
structure SN where
 tInt:Nat
 tI64:Nat
 tU8:Nat
 tU64:Nat
 tU32:Nat
 tU16:Nat
 tB:Nat
 tSl:Nat
 tF:Nat
 tFs:Nat
 tT:Nat
 tTs:Nat
 tG:Nat
 tGs:Nat
 tMs:Nat
 fPart:Nat
 fHas:Nat
 fField:Nat
 fAt:Nat
 fKnown:Nat
 fUsual:Nat
 fUv:Nat
 fUnk:Nat
 fWhole:Nat
 fNull:Nat
 fThings:Nat
 fCnt:Nat
 fVal:Nat
 fFix:Nat
 fWid:Nat
 fWrite:Nat
 fSame:Nat
 fZ2:Nat
 fZ3:Nat
 fZ4:Nat
def FY (S:SN):List Oper:=[mk (some 7) (.box S.tT (tm 3)),mk (some 8) (.assign (.const aF))]
def FX (_S:SN):List Oper:=[mk (some 9) (.assign (.const aF)),mk (some 10) (.assign (.const aF))]
def FW (_S:SN):List Oper:=[mk (some 11) (.assign (ki .i64 0))]
def Bg (S:SN):List Oper:=[mk (some 21) (.move (tm 0)),bi (some 22) .len [(tm 21)] [S.tFs] S.tInt,mk (some 23) (.move (ki .i64 0))]
def Bf (S:SN):List Oper:=[mk (some 24) (.binOp .lss S.tInt (tm 23) (tm 22) 0)]
def Be (S:SN):List Oper:=[mk (some 25) (.move (tm 23)),mk (some 26) (.indexAddr S.tFs (tm 21) (tm 23)),mk (some 27) (.load S.tF (tm 26)),mk (some 13) (.alloc S.tF),mk (some 12) (.assign (tm 25)),mk none (.store S.tF (tm 13) (tm 27))]
def Bd (S:SN):List Oper:=[mk (some 28) (.fieldAddr S.tF (tm 13) 4),mk (some 29) (.load S.tInt (tm 28)),mk (some 30) (.binOp .lss S.tInt (tm 29) (ki .i64 0) 0),mk (some 31) (.move (tm 30)),gd 32 (.load S.tF (tm 13)) 3 true,gd 33 (.move (tm 1)) 3 true,gd 34 (.call ⟨.value (.func S.fHas),#[(tm 32),(tm 33)],#[]⟩) 3 true,mk (some 35) (.pick (tm 31) (tm 34) (.const (.bool false)))]
def yf (S:SN):List Oper:=[mk (some 36) (.move (tm 9)),mk (some 37) (.load S.tF (tm 13)),mk (some 38) (.move (tm 1)),mk (some 39) (.move (tm 2)),mk (some 40) (.load S.tT (tm 7)),mk (some 41) (.move (tm 12)),cl (some 42) S.fAt [(tm 40),(tm 41)],cl (some 43) S.fField [(tm 37),(tm 38),(tm 39),(tm 42)],bi (some 44) .append [(tm 36),(tm 43)] [S.tSl,S.tSl] S.tSl,mk (some 9) (.assign (tm 44))]
def yd (S:SN):List Oper:=[mk (some 45) (.binOp .add S.tInt (tm 23) (ki .i64 1) 0),mk (some 23) (.move (tm 45))]
def FV (S:SN):List Oper:=[mk (some 46) (.move (tm 2)),mk (some 47) (.unOp .not S.tB (tm 46))]
def CE (_S:SN):List Oper:=[mk (some 48) (.move (tm 9)),mk (some 8) (.assign (tm 48))]
def CD (S:SN):List Oper:=[mk (some 49) (.move (tm 0)),cl (some 50) S.fKnown [(tm 49)],mk (some 51) (.convert S.tU32 S.tInt (tm 50)),mk (some 52) (.move (ki .i64 0))]
def CC (S:SN):List Oper:=[mk (some 53) (.binOp .lss S.tInt (tm 52) (tm 51) 0)]
def CB (_S:SN):List Oper:=[mk (some 54) (.move (tm 52)),mk (some 14) (.assign (tm 54))]
def CA (S:SN):List Oper:=[mk (some 55) (.move (tm 0)),bi (some 56) .len [(tm 55)] [S.tFs] S.tInt,mk (some 57) (.move (ki .i64 0))]
def C9 (S:SN):List Oper:=[mk (some 58) (.binOp .lss S.tInt (tm 57) (tm 56) 0)]
def C8 (S:SN):List Oper:=[mk (some 59) (.move (tm 57)),mk (some 60) (.indexAddr S.tFs (tm 55) (tm 57)),mk (some 61) (.load S.tF (tm 60)),mk (some 16) (.alloc S.tF),mk (some 15) (.assign (tm 59)),mk none (.store S.tF (tm 16) (tm 61))]
def C7 (S:SN):List Oper:=[mk (some 62) (.fieldAddr S.tF (tm 16) 4),mk (some 63) (.load S.tInt (tm 62)),mk (some 64) (.move (tm 14)),mk (some 65) (.binOp .eql S.tInt (tm 63) (tm 64) 0),mk (some 66) (.move (tm 65)),gd 67 (.load S.tF (tm 16)) 4 true,gd 68 (.load S.tT (tm 7)) 4 true,gd 69 (.move (tm 15)) 4 true,gd 70 (.call ⟨.value (.func S.fAt),#[(tm 68),(tm 69)],#[]⟩) 4 true,gd 71 (.call ⟨.value (.func S.fUsual),#[(tm 67),(tm 70)],#[]⟩) 4 true,gd 72 (.unOp .not S.tB (tm 71)) 4 true,mk (some 73) (.pick (tm 66) (tm 72) (.const (.bool false)))]
def C6 (S:SN):List Oper:=[mk (some 74) (.load S.tF (tm 16)),mk (some 75) (.move (tm 1)),mk (some 76) (.move (tm 2)),mk (some 77) (.load S.tT (tm 7)),mk (some 78) (.move (tm 15)),cl (some 79) S.fAt [(tm 77),(tm 78)],cl (some 80) S.fField [(tm 74),(tm 75),(tm 76),(tm 79)],mk (some 17) (.assign (tm 80))]
def C5 (S:SN):List Oper:=[mk (some 81) (.move (tm 10)),mk (some 82) (.move (tm 14)),mk (some 83) (.convert S.tInt S.tU64 (tm 82)),cl (some 84) S.fUv [(tm 83)],bi (some 85) .append [(tm 81),(tm 84)] [S.tSl,S.tSl] S.tSl,mk (some 86) (.move (tm 17)),bi (some 87) .len [(tm 86)] [S.tSl] S.tInt,mk (some 88) (.convert S.tInt S.tU64 (tm 87)),cl (some 89) S.fUv [(tm 88)],bi (some 90) .append [(tm 85),(tm 89)] [S.tSl,S.tSl] S.tSl,mk (some 91) (.move (tm 17)),bi (some 92) .append [(tm 90),(tm 91)] [S.tSl,S.tSl] S.tSl,mk (some 10) (.assign (tm 92))]
def C4 (S:SN):List Oper:=[mk (some 93) (.move (tm 11)),mk (some 94) (.binOp .add S.tInt (tm 93) (ki .i64 1) 0),mk (some 11) (.assign (tm 94))]
def C3 (S:SN):List Oper:=[mk (some 95) (.binOp .add S.tInt (tm 57) (ki .i64 1) 0),mk (some 57) (.move (tm 95))]
def C2 (S:SN):List Oper:=[mk (some 96) (.binOp .add S.tInt (tm 52) (ki .i64 1) 0),mk (some 52) (.move (tm 96))]
def C1 (S:SN):List Oper:=[mk (some 97) (.move (tm 0)),mk (some 98) (.fieldAddr S.tT (tm 7) 4),mk (some 99) (.load S.tGs (tm 98)),cl (some 100) S.fUnk [(tm 97),(tm 99)],bi (some 101) .len [(tm 100)] [S.tGs] S.tInt,mk (some 102) (.move (ki .i64 0))]
def yl (S:SN):List Oper:=[mk (some 103) (.binOp .lss S.tInt (tm 102) (tm 101) 0)]
def yk (S:SN):List Oper:=[mk (some 104) (.indexAddr S.tGs (tm 100) (tm 102)),mk (some 105) (.load S.tG (tm 104)),mk (some 19) (.alloc S.tG),mk none (.store S.tG (tm 19) (tm 105))]
def yj (S:SN):List Oper:=[mk (some 106) (.fieldAddr S.tG (tm 19) 1),mk (some 107) (.load S.tSl (tm 106)),cl (some 108) S.fWhole [(tm 107)],mk (some 20) (.assign (tm 108))]
def yi (S:SN):List Oper:=[mk (some 109) (.move (tm 10)),mk (some 110) (.fieldAddr S.tG (tm 19) 0),mk (some 111) (.load S.tU32 (tm 110)),mk (some 112) (.convert S.tU32 S.tU64 (tm 111)),cl (some 113) S.fUv [(tm 112)],bi (some 114) .append [(tm 109),(tm 113)] [S.tSl,S.tSl] S.tSl,mk (some 115) (.move (tm 20)),bi (some 116) .len [(tm 115)] [S.tSl] S.tInt,mk (some 117) (.convert S.tInt S.tU64 (tm 116)),cl (some 118) S.fUv [(tm 117)],bi (some 119) .append [(tm 114),(tm 118)] [S.tSl,S.tSl] S.tSl,mk (some 120) (.move (tm 20)),bi (some 121) .append [(tm 119),(tm 120)] [S.tSl,S.tSl] S.tSl,mk (some 10) (.assign (tm 121))]
def yh (S:SN):List Oper:=[mk (some 122) (.move (tm 11)),mk (some 123) (.binOp .add S.tInt (tm 122) (ki .i64 1) 0),mk (some 11) (.assign (tm 123))]
def yg (S:SN):List Oper:=[mk (some 124) (.binOp .add S.tInt (tm 102) (ki .i64 1) 0),mk (some 102) (.move (tm 124))]
def C0 (S:SN):List Oper:=[mk (some 125) (.move (tm 9)),mk (some 126) (.move (tm 11)),mk (some 127) (.convert S.tInt S.tU64 (tm 126)),cl (some 128) S.fUv [(tm 127)],bi (some 129) .append [(tm 125),(tm 128)] [S.tSl,S.tSl] S.tSl,mk (some 130) (.move (tm 10)),bi (some 131) .append [(tm 129),(tm 130)] [S.tSl,S.tSl] S.tSl,mk (some 8) (.assign (tm 131))]
def csPt (S:SN):Code:=
 (.seq (rg (FY S))
 (.seq (rg (FX S))
 (.seq (rg (FW S))
 (.seq (.seq (rg (Bg S))
  (.block 0 (.loop (.seq (rg (Bf S))
  (.seq (.cond (tm 24) .skip
   (.exit 0))
  (.seq (.block 1 (.seq (rg (Be S))
   (.seq (rg (Bd S))
   (.cond (tm 35) (.region 1 (yf S).toArray true)
   .skip))))
  (rg (yd S))))))))
 (.seq (.seq (rg (FV S))
  (.cond (tm 47) (.seq (rg (CE S))
   .ret)
  .skip))
 (.seq (.seq (rg (CD S))
  (.block 2 (.loop (.seq (rg (CC S))
  (.seq (.cond (tm 53) .skip
   (.exit 2))
  (.seq (.block 3 (.seq (rg (CB S))
   (.seq (rg (CA S))
   (.block 4 (.loop (.seq (rg (C9 S))
   (.seq (.cond (tm 58) .skip
    (.exit 4))
   (.seq (.block 5 (.seq (rg (C8 S))
    (.seq (.region 2 (C7 S).toArray true)
    (.cond (tm 73) (.seq (.region 1 (C6 S).toArray true)
     (.seq (rg (C5 S))
     (rg (C4 S))))
    .skip))))
   (rg (C3 S))))))))))
  (rg (C2 S))))))))
 (.seq (.seq (rg (C1 S))
  (.block 6 (.loop (.seq (rg (yl S))
  (.seq (.cond (tm 103) .skip
   (.exit 6))
  (.seq (.block 7 (.seq (rg (yk S))
   (.seq (rg (yj S))
   (.seq (rg (yi S))
   (rg (yh S))))))
  (rg (yg S))))))))
 (.seq (rg (C0 S))
 .ret))))))))
def Gk (S:SN):List Oper:=[mk (some 2) (.box S.tF (tm 0)),mk (some 4) (.assign (.const (.bool false)))]
def Gj (S:SN):List Oper:=[mk (some 5) (.fieldAddr S.tF (tm 2) 1),mk (some 6) (.load S.tInt (tm 5)),mk (some 7) (.move (tm 1)),mk (some 8) (.binOp .leq S.tInt (tm 6) (tm 7) 0),mk (some 9) (.move (tm 8)),gd 10 (.fieldAddr S.tF (tm 2) 2) 4 true,gd 11 (.load S.tInt (tm 10)) 4 true,gd 12 (.binOp .lss S.tInt (tm 11) (ki .i64 0) 0) 4 true,gd 13 (.move (tm 12)) 4 true,gd 14 (.move (tm 1)) 8 false,gd 15 (.fieldAddr S.tF (tm 2) 2) 8 false,gd 16 (.load S.tInt (tm 15)) 8 false,gd 17 (.binOp .leq S.tInt (tm 14) (tm 16) 0) 8 false,gd 18 (.pick (tm 13) (.const (.bool true)) (tm 17)) 4 true,mk (some 19) (.pick (tm 9) (tm 18) (.const (.bool false))),mk (some 4) (.assign (tm 19))]
def csHs (S:SN):Code:=
 (.seq (rg (Gk S))
 (.seq (rg (Gj S))
 .ret))
def Gs (S:SN):List Oper:=[mk (some 4) (.box S.tF (tm 0)),mk (some 7) (.box S.tT (tm 3)),mk (some 8) (.assign (.const aF))]
def Gq (S:SN):List Oper:=[mk (some 13) (.load S.tF (tm 4)),mk (some 14) (.move (tm 1)),mk (some 15) (.load S.tT (tm 7)),cl (some 16) S.fNull [(tm 13),(tm 14),(tm 15)],mk (some 9) (.assign (tm 16))]
def Gp (S:SN):List Oper:=[mk (some 17) (.fieldAddr S.tF (tm 4) 0),mk (some 18) (.load S.tInt (tm 17)),mk (some 19) (.binOp .eql S.tInt (tm 18) (ki .i64 11) 0)]
def Gn (S:SN):List Oper:=[mk (some 20) (.fieldAddr S.tT (tm 7) 3),mk (some 21) (.load S.tTs (tm 20)),cl (some 22) S.fThings [(tm 21)],mk (some 10) (.assign (tm 22))]
def Gm (_S:SN):List Oper:=[mk (some 23) (.move (tm 9))]
def Gl (_S:SN):List Oper:=[mk (some 10) (.assign (.const aF))]
def Bj (S:SN):List Oper:=[mk (some 24) (.move (tm 2)),mk (some 25) (.move (tm 9)),mk (some 26) (.move (tm 10)),bi (some 27) .len [(tm 26)] [S.tTs] S.tInt,cl (some 28) S.fCnt [(tm 24),(tm 25),(tm 27),(ki .i64 4)],mk (some 11) (.assign (tm 28))]
def yq (S:SN):List Oper:=[mk (some 29) (.move (tm 10)),bi (some 30) .len [(tm 29)] [S.tTs] S.tInt,mk (some 31) (.move (ki .i64 0))]
def yp (S:SN):List Oper:=[mk (some 32) (.binOp .lss S.tInt (tm 31) (tm 30) 0)]
def yo (_S:SN):List Oper:=[mk (some 33) (.move (tm 31)),mk (some 12) (.assign (tm 33))]
def sK (S:SN):List Oper:=[mk (some 34) (.move (tm 11)),mk (some 35) (.fieldAddr S.tF (tm 4) 6),mk (some 36) (.load S.tInt (tm 35)),mk (some 37) (.fieldAddr S.tF (tm 4) 7),mk (some 38) (.load S.tFs (tm 37)),mk (some 39) (.move (tm 1)),mk (some 40) (.move (tm 2)),mk (some 41) (.move (tm 10)),mk (some 42) (.move (tm 12)),mk (some 43) (.indexAddr S.tTs (tm 41) (tm 42)),mk (some 44) (.load S.tT (tm 43)),cl (some 45) S.fVal [(tm 36),(tm 38),(.const (.bool false)),(tm 39),(tm 40),(tm 44)],bi (some 46) .append [(tm 34),(tm 45)] [S.tSl,S.tSl] S.tSl,mk (some 11) (.assign (tm 46))]
def sJ (S:SN):List Oper:=[mk (some 47) (.binOp .add S.tInt (tm 31) (ki .i64 1) 0),mk (some 31) (.move (tm 47))]
def sI (_S:SN):List Oper:=[mk (some 48) (.move (tm 11)),mk (some 8) (.assign (tm 48))]
def yv (S:SN):List Oper:=[mk (some 49) (.fieldAddr S.tF (tm 4) 0),mk (some 50) (.load S.tInt (tm 49)),mk (some 51) (.binOp .eql S.tInt (tm 50) (ki .i64 10) 0),mk (some 52) (.move (tm 51)),gd 53 (.fieldAddr S.tF (tm 4) 3) 3 true,gd 54 (.load S.tInt (tm 53)) 3 true,gd 55 (.binOp .geq S.tInt (tm 54) (ki .i64 0) 0) 3 true,mk (some 56) (.pick (tm 52) (tm 55) (.const (.bool false)))]
def yu (_S:SN):List Oper:=[mk (some 57) (.move (tm 9))]
def yt (S:SN):List Oper:=[cl (some 58) S.fFix [(ki .i64 (-1)),(ki .i64 1)],mk (some 8) (.assign (tm 58))]
def yr (S:SN):List Oper:=[cl (some 59) S.fFix [(ki .i64 1),(ki .i64 1)],mk (some 60) (.fieldAddr S.tF (tm 4) 7),mk (some 61) (.load S.tFs (tm 60)),mk (some 62) (.move (tm 1)),mk (some 63) (.move (tm 2)),mk (some 64) (.load S.tT (tm 7)),cl (some 65) S.fPart [(tm 61),(tm 62),(tm 63),(tm 64)],bi (some 66) .append [(tm 59),(tm 65)] [S.tSl,S.tSl] S.tSl,mk (some 8) (.assign (tm 66))]
def sH (S:SN):List Oper:=[mk (some 67) (.fieldAddr S.tF (tm 4) 0),mk (some 68) (.load S.tInt (tm 67)),mk (some 69) (.fieldAddr S.tF (tm 4) 7),mk (some 70) (.load S.tFs (tm 69)),mk (some 71) (.move (tm 9)),mk (some 72) (.move (tm 1)),mk (some 73) (.move (tm 2)),mk (some 74) (.load S.tT (tm 7)),cl (some 75) S.fVal [(tm 68),(tm 70),(tm 71),(tm 72),(tm 73),(tm 74)],mk (some 8) (.assign (tm 75))]
def csFl (S:SN):Code:=
 (.seq (rg (Gs S))
 (.seq (rg (Gq S))
 (.seq (.seq (rg (Gp S))
  (.cond (tm 19) (.seq (rg (Gn S))
   (.seq (.seq (rg (Gm S))
    (.cond (tm 23) (rg (Gl S))
    .skip))
   (.seq (rg (Bj S))
   (.seq (.seq (rg (yq S))
    (.block 0 (.loop (.seq (rg (yp S))
    (.seq (.cond (tm 32) .skip
     (.exit 0))
    (.seq (.block 1 (.seq (rg (yo S))
     (.region 1 (sK S).toArray true)))
    (rg (sJ S))))))))
   (.seq (rg (sI S))
   .ret)))))
  .skip))
 (.seq (.seq (rg (yv S))
  (.cond (tm 56) (.seq (.seq (rg (yu S))
    (.cond (tm 57) (.seq (rg (yt S))
     .ret)
    .skip))
   (.seq (.region 1 (yr S).toArray true)
   .ret))
  .skip))
 (.seq (rg (sH S))
 .ret)))))
def GE (S:SN):List Oper:=[mk (some 2) (.box S.tT (tm 0)),mk (some 4) (.alloc S.tT)]
def GD (S:SN):List Oper:=[mk (some 5) (.move (tm 1)),mk (some 6) (.fieldAddr S.tT (tm 2) 3),mk (some 7) (.load S.tTs (tm 6)),bi (some 8) .len [(tm 7)] [S.tTs] S.tInt,mk (some 9) (.binOp .lss S.tInt (tm 5) (tm 8) 0)]
def GB (S:SN):List Oper:=[mk (some 10) (.fieldAddr S.tT (tm 2) 3),mk (some 11) (.load S.tTs (tm 10)),mk (some 12) (.move (tm 1)),mk (some 13) (.indexAddr S.tTs (tm 11) (tm 12)),mk (some 14) (.load S.tT (tm 13)),mk none (.store S.tT (tm 4) (tm 14))]
def GA (S:SN):List Oper:=[mk (some 15) (.build S.tT #[]),mk none (.store S.tT (tm 4) (tm 15))]
def csAt (S:SN):Code:=
 (.seq (rg (GE S))
 (.seq (.seq (rg (GD S))
  (.cond (tm 9) (.seq (rg (GB S))
   .ret)
  .skip))
 (.seq (rg (GA S))
 .ret)))
def Gi (_S:SN):List Oper:=[mk (some 2) (.assign (ki .u32 0))]
def Gh (_S:SN):List Oper:=[mk (some 3) (.assign (ki .u32 0))]
def Gg (S:SN):List Oper:=[mk (some 6) (.move (tm 0)),bi (some 7) .len [(tm 6)] [S.tFs] S.tInt,mk (some 8) (.move (ki .i64 0))]
def Gf (S:SN):List Oper:=[mk (some 9) (.binOp .lss S.tInt (tm 8) (tm 7) 0)]
def Ge (S:SN):List Oper:=[mk (some 10) (.indexAddr S.tFs (tm 6) (tm 8)),mk (some 11) (.load S.tF (tm 10)),mk (some 5) (.alloc S.tF),mk none (.store S.tF (tm 5) (tm 11))]
def Gd (S:SN):List Oper:=[mk (some 12) (.fieldAddr S.tF (tm 5) 4),mk (some 13) (.load S.tInt (tm 12)),mk (some 14) (.binOp .geq S.tInt (tm 13) (ki .i64 0) 0)]
def Gc (S:SN):List Oper:=[mk (some 15) (.move (tm 3)),mk (some 16) (.fieldAddr S.tF (tm 5) 4),mk (some 17) (.load S.tInt (tm 16)),mk (some 18) (.convert S.tInt S.tU32 (tm 17)),mk (some 19) (.binOp .add S.tU32 (tm 18) (ki .u32 1) 0),bi (some 20) .max [(tm 15),(tm 19)] [S.tU32,S.tU32] S.tU32,mk (some 3) (.assign (tm 20))]
def Bi (S:SN):List Oper:=[mk (some 21) (.binOp .add S.tInt (tm 8) (ki .i64 1) 0),mk (some 8) (.move (tm 21))]
def Bh (_S:SN):List Oper:=[mk (some 22) (.move (tm 3)),mk (some 2) (.assign (tm 22))]
def csKw (S:SN):Code:=
 (.seq (rg (Gi S))
 (.seq (rg (Gh S))
 (.seq (.seq (rg (Gg S))
  (.block 0 (.loop (.seq (rg (Gf S))
  (.seq (.cond (tm 9) .skip
   (.exit 0))
  (.seq (.block 1 (.seq (rg (Ge S))
   (.seq (rg (Gd S))
   (.cond (tm 14) (rg (Gc S))
   .skip))))
  (rg (Bi S))))))))
 (.seq (rg (Bh S))
 .ret))))
def Cf (_S:SN):List Oper:=[mk (some 2) (.assign (.const aF))]
def Ce (_S:SN):List Oper:=[mk (some 3) (.assign (.const aF))]
def Cd (S:SN):List Oper:=[mk (some 4) (.move (tm 0)),mk (some 5) (.binOp .gtr S.tU64 (tm 4) (ki .u64 127) 0)]
def Cc (S:SN):List Oper:=[mk (some 6) (.move (tm 3)),mk (some 7) (.move (tm 0)),mk (some 8) (.binOp .and S.tU64 (tm 7) (ki .u64 127) 0),mk (some 9) (.convert S.tU64 S.tU8 (tm 8)),mk (some 10) (.binOp .or S.tU8 (tm 9) (ki .u8 128) 0),mk (some 11) (.buildSlice S.tSl 1 #[(0,(tm 10))]),bi (some 12) .append [(tm 6),(tm 11)] [S.tSl,S.tSl] S.tSl,mk (some 3) (.assign (tm 12))]
def Cb (S:SN):List Oper:=[mk (some 13) (.move (tm 0)),mk (some 14) (.binOp .shr S.tU64 (tm 13) (ki .u64 7) 0),mk (some 0) (.assign (tm 14))]
def Ca (S:SN):List Oper:=[mk (some 15) (.move (tm 3)),mk (some 16) (.move (tm 0)),mk (some 17) (.convert S.tU64 S.tU8 (tm 16)),mk (some 18) (.buildSlice S.tSl 1 #[(0,(tm 17))]),bi (some 19) .append [(tm 15),(tm 18)] [S.tSl,S.tSl] S.tSl,mk (some 2) (.assign (tm 19))]
def csUvr (S:SN):Code:=
 (.seq (rg (Cf S))
 (.seq (rg (Ce S))
 (.seq (.block 0 (.loop (.seq (.seq (rg (Cd S))
   (.cond (tm 5) .skip
   (.exit 0)))
  (.block 1 (.seq (rg (Cc S))
  (rg (Cb S)))))))
 (.seq (rg (Ca S))
 .ret))))
def FS (_S:SN):List Oper:=[mk (some 4) (.assign (.const aF))]
def FR (S:SN):List Oper:=[mk (some 11) (.move (tm 0)),cl (some 12) S.fKnown [(tm 11)],mk (some 5) (.assign (tm 12))]
def FQ (_S:SN):List Oper:=[mk (some 6) (.assign (.const aF))]
def FP (S:SN):List Oper:=[mk (some 13) (.move (tm 1)),mk (some 14) (.move (tm 1)),bi (some 15) .len [(tm 14)] [S.tGs] S.tInt,bi (some 16) .min [(tm 15),(ki .i64 32767)] [S.tInt,S.tInt] S.tInt,mk (some 17) (.slice S.tGs (tm 13) none (some (tm 16)) none),bi (some 18) .len [(tm 17)] [S.tGs] S.tInt,mk (some 19) (.move (ki .i64 0))]
def FO (S:SN):List Oper:=[mk (some 20) (.binOp .lss S.tInt (tm 19) (tm 18) 0)]
def FM (S:SN):List Oper:=[mk (some 21) (.indexAddr S.tGs (tm 17) (tm 19)),mk (some 22) (.load S.tG (tm 21)),mk (some 8) (.alloc S.tG),mk none (.store S.tG (tm 8) (tm 22))]
def FL (_S:SN):List Oper:=[mk (some 9) (.assign (ki .i64 0))]
def xV (S:SN):List Oper:=[mk (some 23) (.move (tm 9)),mk (some 24) (.move (tm 6)),bi (some 25) .len [(tm 24)] [S.tGs] S.tInt,mk (some 26) (.binOp .lss S.tInt (tm 23) (tm 25) 0),mk (some 27) (.move (tm 26)),gd 28 (.move (tm 6)) 4 true,gd 29 (.move (tm 9)) 4 true,gd 30 (.indexAddr S.tGs (tm 28) (tm 29)) 4 true,gd 31 (.fieldAddr S.tG (tm 30) 0) 4 true,gd 32 (.load S.tU32 (tm 31)) 4 true,gd 33 (.fieldAddr S.tG (tm 8) 0) 4 true,gd 34 (.load S.tU32 (tm 33)) 4 true,gd 35 (.binOp .lss S.tU32 (tm 32) (tm 34) 0) 4 true,mk (some 36) (.pick (tm 27) (tm 35) (.const (.bool false)))]
def Bc (S:SN):List Oper:=[mk (some 37) (.move (tm 9)),mk (some 38) (.binOp .add S.tInt (tm 37) (ki .i64 1) 0),mk (some 9) (.assign (tm 38))]
def xU (S : SN) : List Oper := [mk (some 39) (.fieldAddr S.tG (tm 8) 0), mk (some 40) (.load S.tU32 (tm 39)), mk (some 41) (.move (tm 5)), mk (some 42) (.binOp .lss S.tU32 (tm 40) (tm 41) 0), mk (some 43) (.move (tm 42)), gd 44 (.move (tm 9)) 4 false, gd 45 (.move (tm 6)) 4 false, ⟨(some 46), .call ⟨.builtin .len, #[(tm 45)], #[S.tGs]⟩, S.tInt, "", #[], some (4, false)⟩, gd 47 (.binOp .lss S.tInt (tm 44) (tm 46) 0) 4 false, gd 48 (.move (tm 47)) 4 false, gd 49 (.move (tm 6)) 9 true, gd 50 (.move (tm 9)) 9 true, gd 51 (.indexAddr S.tGs (tm 49) (tm 50)) 9 true, gd 52 (.fieldAddr S.tG (tm 51) 0) 9 true, gd 53 (.load S.tU32 (tm 52)) 9 true, gd 54 (.fieldAddr S.tG (tm 8) 0) 9 true, gd 55 (.load S.tU32 (tm 54)) 9 true, gd 56 (.binOp .eql S.tU32 (tm 53) (tm 55) 0) 9 true, gd 57 (.pick (tm 48) (tm 56) (.const (.bool false))) 4 false, mk (some 58) (.pick (tm 43) (.const (.bool true)) (tm 57))]
def yc (S:SN):List Oper:=[mk (some 59) (.move (tm 6)),mk (some 60) (.build S.tG #[]),mk (some 61) (.buildSlice S.tGs 1 #[(0,(tm 60))]),bi (some 62) .append [(tm 59),(tm 61)] [S.tGs,S.tGs] S.tGs,mk (some 6) (.assign (tm 62))]
def yb (S:SN):List Oper:=[mk (some 63) (.move (tm 6)),bi (some 64) .len [(tm 63)] [S.tGs] S.tInt,mk (some 65) (.binOp .sub S.tInt (tm 64) (ki .i64 1) 0),mk (some 10) (.assign (tm 65))]
def ya (S:SN):List Oper:=[mk (some 66) (.move (tm 10)),mk (some 67) (.move (tm 9)),mk (some 68) (.binOp .gtr S.tInt (tm 66) (tm 67) 0)]
def xZ (S:SN):List Oper:=[mk (some 71) (.move (tm 6)),mk (some 72) (.move (tm 10)),mk (some 73) (.move (tm 6)),mk (some 74) (.move (tm 10)),mk (some 75) (.binOp .sub S.tInt (tm 74) (ki .i64 1) 0),mk (some 76) (.indexAddr S.tGs (tm 73) (tm 75)),mk (some 77) (.load S.tG (tm 76)),mk (some 78) (.indexAddr S.tGs (tm 71) (tm 72)),mk none (.store S.tG (tm 78) (tm 77))]
def xY (S:SN):List Oper:=[mk (some 69) (.move (tm 10)),mk (some 70) (.binOp .sub S.tInt (tm 69) (ki .i64 1) 0),mk (some 10) (.assign (tm 70))]
def xX (S:SN):List Oper:=[mk (some 79) (.move (tm 6)),mk (some 80) (.move (tm 9)),mk (some 81) (.load S.tG (tm 8)),mk (some 82) (.indexAddr S.tGs (tm 79) (tm 80)),mk none (.store S.tG (tm 82) (tm 81))]
def xW (S:SN):List Oper:=[mk (some 83) (.binOp .add S.tInt (tm 19) (ki .i64 1) 0),mk (some 19) (.move (tm 83))]
def Cz (_S:SN):List Oper:=[mk (some 84) (.move (tm 6)),mk (some 4) (.assign (tm 84))]
def csUn (S:SN):Code:=
 (.seq (rg (FS S))
 (.seq (rg (FR S))
 (.seq (rg (FQ S))
 (.seq (.seq (rg (FP S))
  (.block 0 (.loop (.seq (rg (FO S))
  (.seq (.cond (tm 20) .skip
   (.exit 0))
  (.seq (.block 1 (.seq (rg (FM S))
   (.seq (rg (FL S))
   (.seq (.block 2 (.loop (.seq (.seq (.region 2 (xV S).toArray true)
     (.cond (tm 36) .skip
     (.exit 2)))
    (.block 3 (rg (Bc S))))))
   (.seq (.seq (.region 2 (xU S).toArray true)
    (.cond (tm 58) (.exit 1)
    .skip))
   (.seq (rg (yc S))
   (.seq (.seq (rg (yb S))
    (.block 4 (.loop (.seq (.seq (rg (ya S))
     (.cond (tm 68) .skip
     (.exit 4)))
    (.seq (.block 5 (rg (xZ S)))
    (rg (xY S)))))))
   (rg (xX S)))))))))
  (rg (xW S))))))))
 (.seq (rg (Cz S))
 .ret)))))
def Fx (_S:SN):List Oper:=[mk (some 2) (.assign (.const aF))]
def Fw (S:SN):List Oper:=[mk (some 3) (.move (tm 0)),mk (some 4) (.move (tm 0)),bi (some 5) .len [(tm 4)] [S.tSl] S.tInt,bi (some 6) .min [(tm 5),(ki .i64 32767)] [S.tInt,S.tInt] S.tInt,mk (some 7) (.slice S.tSl (tm 3) none (some (tm 6)) none),mk (some 2) (.assign (tm 7))]
def csWh (S:SN):Code:=
 (.seq (rg (Fx S))
 (.seq (rg (Fw S))
 .ret))
def Ga (S:SN):List Oper:=[mk (some 3) (.box S.tF (tm 0)),mk (some 5) (.box S.tT (tm 2)),mk (some 6) (.assign (.const (.bool false)))]
def FZ (S:SN):List Oper:=[mk (some 7) (.fieldAddr S.tT (tm 5) 2),mk (some 8) (.load S.tB (tm 7)),mk (some 9) (.move (tm 8)),gd 10 (.fieldAddr S.tF (tm 3) 3) 2 true,gd 11 (.load S.tInt (tm 10)) 2 true,gd 12 (.binOp .geq S.tInt (tm 11) (ki .i64 0) 0) 2 true,mk (some 13) (.pick (tm 9) (tm 12) (.const (.bool false))),mk (some 14) (.move (tm 13)),gd 15 (.move (tm 1)) 7 true,gd 16 (.fieldAddr S.tF (tm 3) 3) 7 true,gd 17 (.load S.tInt (tm 16)) 7 true,gd 18 (.binOp .geq S.tInt (tm 15) (tm 17) 0) 7 true,mk (some 19) (.pick (tm 14) (tm 18) (.const (.bool false))),mk (some 6) (.assign (tm 19))]
def csNu (S:SN):Code:=
 (.seq (rg (Ga S))
 (.seq (rg (FZ S))
 .ret))
def FU (_S:SN):List Oper:=[mk (some 2) (.assign (.const aF))]
def FT (S:SN):List Oper:=[mk (some 3) (.move (tm 0)),mk (some 4) (.move (tm 0)),bi (some 5) .len [(tm 4)] [S.tTs] S.tInt,bi (some 6) .min [(tm 5),(ki .i64 32767)] [S.tInt,S.tInt] S.tInt,mk (some 7) (.slice S.tTs (tm 3) none (some (tm 6)) none),mk (some 2) (.assign (tm 7))]
def csTh (S:SN):Code:=
 (.seq (rg (FU S))
 (.seq (rg (FT S))
 .ret))
def G9 (_S:SN):List Oper:=[mk (some 8) (.assign (.const aF))]
def G8 (_S:SN):List Oper:=[mk (some 10) (.move (tm 0)),mk (some 11) (.move (tm 10)),gd 12 (.move (tm 1)) 1 true,mk (some 13) (.pick (tm 11) (tm 12) (.const (.bool false))),mk (some 9) (.assign (tm 13))]
def G7 (S:SN):List Oper:=[mk (some 14) (.buildSlice S.tSl 1 #[(0,(ki .u8 0))]),mk (some 8) (.assign (tm 14))]
def G6 (_S:SN):List Oper:=[mk (some 16) (.move (tm 0)),mk (some 15) (.assign (tm 16))]
def G5 (S:SN):List Oper:=[mk (some 17) (.move (tm 2)),mk (some 18) (.convert S.tInt S.tU64 (tm 17)),mk (some 19) (.binOp .add S.tU64 (tm 18) (ki .u64 1) 0),cl (some 20) S.fUv [(tm 19)],mk (some 8) (.assign (tm 20))]
def G4 (_S:SN):List Oper:=[mk (some 22) (.move (tm 1)),mk (some 21) (.assign (tm 22))]
def G3 (S:SN):List Oper:=[mk (some 23) (.move (tm 3)),cl (some 24) S.fFix [(ki .i64 (-1)),(tm 23)],mk (some 8) (.assign (tm 24))]
def G2 (S:SN):List Oper:=[mk (some 25) (.move (tm 2)),mk (some 26) (.move (tm 3)),cl (some 27) S.fFix [(tm 25),(tm 26)],mk (some 8) (.assign (tm 27))]
def csCn (S:SN):Code:=
 (.seq (rg (G9 S))
 (.seq (.block 0 (.seq (rg (G8 S))
  (.cond (tm 9) (.seq (rg (G7 S))
   .ret)
  (.seq (rg (G6 S))
  (.cond (tm 15) (.seq (rg (G5 S))
   .ret)
  (.seq (rg (G4 S))
  (.cond (tm 21) (.seq (rg (G3 S))
   .ret)
  .skip)))))))
 (.seq (rg (G2 S))
 .ret)))
def F9 (S:SN):List Oper:=[mk (some 11) (.box S.tT (tm 5)),mk (some 12) (.assign (.const aF))]
def F8 (_S:SN):List Oper:=[mk (some 16) (.move (tm 0))]
def F7 (S:SN):List Oper:=[mk (some 18) (.binOp .eql S.tInt (tm 16) (ki .i64 0) 0),mk (some 17) (.assign (tm 18))]
def F6 (S:SN):List Oper:=[mk (some 19) (.fieldAddr S.tT (tm 11) 0),mk (some 20) (.load S.tI64 (tm 19)),mk (some 21) (.binOp .and S.tI64 (tm 20) (ki .i64 1) 0),mk (some 22) (.convert S.tI64 S.tU8 (tm 21)),mk (some 23) (.buildSlice S.tSl 1 #[(0,(tm 22))]),mk (some 12) (.assign (tm 23))]
def F5 (S:SN):List Oper:=[mk (some 25) (.binOp .eql S.tInt (tm 16) (ki .i64 7) 0),mk (some 24) (.assign (tm 25))]
def Bb (S:SN):List Oper:=[mk (some 26) (.makeSlice S.tSl (ki .i64 16) (ki .i64 16)),mk (some 13) (.assign (tm 26))]
def Ba (S:SN):List Oper:=[mk (some 27) (.move (tm 13)),mk (some 28) (.fieldAddr S.tT (tm 11) 1),mk (some 29) (.load S.tSl (tm 28)),bi (some 30) .copy [(tm 27),(tm 29)] [S.tSl,S.tSl] S.tInt]
def AZ (_S:SN):List Oper:=[mk (some 31) (.move (tm 13)),mk (some 12) (.assign (tm 31))]
def F4 (S:SN):List Oper:=[mk (some 33) (.binOp .eql S.tInt (tm 16) (ki .i64 8) 0),mk (some 32) (.assign (tm 33))]
def AY (S:SN):List Oper:=[mk (some 34) (.fieldAddr S.tT (tm 11) 1),mk (some 35) (.load S.tSl (tm 34)),cl (some 36) S.fWhole [(tm 35)],mk (some 14) (.assign (tm 36))]
def xT (_S:SN):List Oper:=[mk (some 37) (.move (tm 2))]
def xS (_S:SN):List Oper:=[mk (some 14) (.assign (.const aF))]
def sF (S:SN):List Oper:=[mk (some 38) (.move (tm 4)),mk (some 39) (.move (tm 2)),mk (some 40) (.move (tm 14)),bi (some 41) .len [(tm 40)] [S.tSl] S.tInt,cl (some 42) S.fCnt [(tm 38),(tm 39),(tm 41),(ki .i64 2)],mk (some 43) (.move (tm 14)),bi (some 44) .append [(tm 42),(tm 43)] [S.tSl,S.tSl] S.tSl,mk (some 12) (.assign (tm 44))]
def BZ (S:SN):List Oper:=[mk (some 46) (.binOp .eql S.tInt (tm 16) (ki .i64 9) 0),mk (some 45) (.assign (tm 46))]
def xR (S:SN):List Oper:=[mk (some 47) (.fieldAddr S.tT (tm 11) 1),mk (some 48) (.load S.tSl (tm 47)),cl (some 49) S.fWhole [(tm 48)],mk (some 15) (.assign (tm 49))]
def xQ (_S:SN):List Oper:=[mk (some 50) (.move (tm 2))]
def xP (_S:SN):List Oper:=[mk (some 15) (.assign (.const aF))]
def sD (S:SN):List Oper:=[mk (some 51) (.move (tm 4)),mk (some 52) (.move (tm 2)),mk (some 53) (.move (tm 15)),bi (some 54) .len [(tm 53)] [S.tSl] S.tInt,cl (some 55) S.fCnt [(tm 51),(tm 52),(tm 54),(ki .i64 4)],mk (some 56) (.move (tm 15)),bi (some 57) .append [(tm 55),(tm 56)] [S.tSl,S.tSl] S.tSl,mk (some 12) (.assign (tm 57))]
def BY (S:SN):List Oper:=[mk (some 59) (.binOp .eql S.tInt (tm 16) (ki .i64 10) 0),mk (some 58) (.assign (tm 59))]
def BX (S:SN):List Oper:=[mk (some 60) (.move (tm 1)),mk (some 61) (.move (tm 3)),mk (some 62) (.move (tm 4)),mk (some 63) (.load S.tT (tm 11)),cl (some 64) S.fPart [(tm 60),(tm 61),(tm 62),(tm 63)],mk (some 12) (.assign (tm 64))]
def BW (S:SN):List Oper:=[mk (some 65) (.fieldAddr S.tT (tm 11) 0),mk (some 66) (.load S.tI64 (tm 65)),mk (some 67) (.move (tm 0)),cl (some 68) S.fWid [(tm 67)],cl (some 69) S.fFix [(tm 66),(tm 68)],mk (some 12) (.assign (tm 69))]
def csVa (S:SN):Code:=
 (.seq (rg (F9 S))
 (.seq (.seq (rg (F8 S))
  (.block 0 (.seq (rg (F7 S))
  (.cond (tm 17) (.seq (rg (F6 S))
   .ret)
  (.seq (rg (F5 S))
  (.cond (tm 24) (.seq (rg (Bb S))
   (.seq (rg (Ba S))
   (.seq (rg (AZ S))
   .ret)))
  (.seq (rg (F4 S))
  (.cond (tm 32) (.seq (rg (AY S))
   (.seq (.seq (rg (xT S))
    (.cond (tm 37) (rg (xS S))
    .skip))
   (.seq (rg (sF S))
   .ret)))
  (.seq (rg (BZ S))
  (.cond (tm 45) (.seq (rg (xR S))
   (.seq (.seq (rg (xQ S))
    (.cond (tm 50) (rg (xP S))
    .skip))
   (.seq (rg (sD S))
   .ret)))
  (.seq (rg (BY S))
  (.cond (tm 58) (.seq (rg (BX S))
   .ret)
  .skip))))))))))))
 (.seq (.region 1 (BW S).toArray true)
 .ret)))
def Gz (_S:SN):List Oper:=[mk (some 4) (.assign (.const aF))]
def Gy (_S:SN):List Oper:=[mk (some 5) (.assign (.const aF))]
def Gx (S:SN):List Oper:=[mk (some 7) (.move (tm 1)),mk (some 8) (.binOp .sub S.tInt (tm 7) (ki .i64 1) 0),mk (some 6) (.assign (tm 8))]
def Gw (S:SN):List Oper:=[mk (some 9) (.move (tm 6)),mk (some 10) (.binOp .geq S.tInt (tm 9) (ki .i64 0) 0)]
def Gv (S:SN):List Oper:=[mk (some 13) (.move (tm 5)),mk (some 14) (.move (tm 0)),mk (some 15) (.move (tm 6)),mk (some 16) (.binOp .mul S.tInt (ki .i64 8) (tm 15) 0),mk (some 17) (.binOp .shr S.tI64 (tm 14) (tm 16) 0),mk (some 18) (.convert S.tI64 S.tU8 (tm 17)),mk (some 19) (.buildSlice S.tSl 1 #[(0,(tm 18))]),bi (some 20) .append [(tm 13),(tm 19)] [S.tSl,S.tSl] S.tSl,mk (some 5) (.assign (tm 20))]
def Gu (S:SN):List Oper:=[mk (some 11) (.move (tm 6)),mk (some 12) (.binOp .sub S.tInt (tm 11) (ki .i64 1) 0),mk (some 6) (.assign (tm 12))]
def Gt (_S:SN):List Oper:=[mk (some 21) (.move (tm 5)),mk (some 4) (.assign (tm 21))]
def csFi (S:SN):Code:=
 (.seq (rg (Gz S))
 (.seq (rg (Gy S))
 (.seq (.seq (rg (Gx S))
  (.block 0 (.loop (.seq (.seq (rg (Gw S))
   (.cond (tm 10) .skip
   (.exit 0)))
  (.seq (.block 1 (rg (Gv S)))
  (rg (Gu S)))))))
 (.seq (rg (Gt S))
 .ret))))
def F3 (_S:SN):List Oper:=[mk (some 2) (.assign (ki .i64 0))]
def F2 (_S:SN):List Oper:=[mk (some 3) (.move (tm 0))]
def F1 (S:SN):List Oper:=[mk (some 5) (.binOp .eql S.tInt (tm 3) (ki .i64 1) 0),mk (some 4) (.assign (tm 5))]
def F0 (_S:SN):List Oper:=[mk (some 2) (.assign (ki .i64 1))]
def Fz (S:SN):List Oper:=[mk (some 7) (.binOp .eql S.tInt (tm 3) (ki .i64 2) 0),mk (some 6) (.assign (tm 7))]
def Fy (S:SN):List Oper:=[mk (some 8) (.binOp .eql S.tInt (tm 3) (ki .i64 5) 0),mk (some 6) (.assign (tm 8))]
def AX (_S:SN):List Oper:=[mk (some 2) (.assign (ki .i64 2))]
def AW (S:SN):List Oper:=[mk (some 10) (.binOp .eql S.tInt (tm 3) (ki .i64 3) 0),mk (some 9) (.assign (tm 10))]
def AV (_S:SN):List Oper:=[mk (some 2) (.assign (ki .i64 4))]
def AU (_S:SN):List Oper:=[mk (some 2) (.assign (ki .i64 8))]
def csWd (S:SN):Code:=
 (.seq (rg (F3 S))
 (.seq (.seq (rg (F2 S))
  (.block 0 (.seq (rg (F1 S))
  (.cond (tm 4) (.seq (rg (F0 S))
   .ret)
  (.seq (.seq (rg (Fz S))
   (.cond (tm 6) .skip
   (rg (Fy S))))
  (.cond (tm 6) (.seq (rg (AX S))
   .ret)
  (.seq (rg (AW S))
  (.cond (tm 9) (.seq (rg (AV S))
   .ret)
  .skip))))))))
 (.seq (rg (AU S))
 .ret)))
def Fv (S:SN):List Oper:=[mk (some 3) (.box S.tMs (tm 0)),mk (some 5) (.box S.tT (tm 2)),mk (some 6) (.assign (.const aF))]
def Fu (S:SN):List Oper:=[mk (some 7) (.fieldAddr S.tMs (tm 3) 0),mk (some 8) (.load S.tFs (tm 7)),mk (some 9) (.move (tm 1)),mk (some 10) (.fieldAddr S.tMs (tm 3) 1),mk (some 11) (.load S.tInt (tm 10)),mk (some 12) (.binOp .geq S.tInt (tm 11) (ki .i64 0) 0),mk (some 13) (.move (tm 12)),gd 14 (.move (tm 1)) 6 true,gd 15 (.fieldAddr S.tMs (tm 3) 1) 6 true,gd 16 (.load S.tInt (tm 15)) 6 true,gd 17 (.binOp .geq S.tInt (tm 14) (tm 16) 0) 6 true,mk (some 18) (.pick (tm 13) (tm 17) (.const (.bool false))),mk (some 19) (.load S.tT (tm 5)),cl (some 20) S.fPart [(tm 8),(tm 9),(tm 18),(tm 19)],mk (some 6) (.assign (tm 20))]
def csWr (S:SN):Code:=
 (.seq (rg (Fv S))
 (.seq (rg (Fu S))
 .ret))
def Ft (S:SN):List Oper:=[mk (some 1) (.box S.tT (tm 0)),mk (some 2) (.assign (.const (.bool false)))]
def Fs (S:SN):List Oper:=[mk (some 3) (.fieldAddr S.tT (tm 1) 1),mk (some 4) (.load S.tSl (tm 3)),bi (some 5) .len [(tm 4)] [S.tSl] S.tInt,mk (some 6) (.binOp .gtr S.tInt (tm 5) (ki .i64 2147483647) 0)]
def Fr (_S:SN):List Oper:=[mk (some 2) (.assign (.const (.bool false)))]
def Fq (S:SN):List Oper:=[mk (some 7) (.fieldAddr S.tT (tm 1) 3),mk (some 8) (.load S.tTs (tm 7)),bi (some 9) .len [(tm 8)] [S.tTs] S.tInt,mk (some 10) (.binOp .gtr S.tInt (tm 9) (ki .i64 2147483647) 0)]
def Fp (_S:SN):List Oper:=[mk (some 2) (.assign (.const (.bool false)))]
def Fo (S:SN):List Oper:=[mk (some 11) (.fieldAddr S.tT (tm 1) 4),mk (some 12) (.load S.tGs (tm 11)),cl (some 13) S.fZ3 [(tm 12)],mk (some 14) (.unOp .not S.tB (tm 13))]
def Fm (_S:SN):List Oper:=[mk (some 2) (.assign (.const (.bool false)))]
def Fl (_S:SN):List Oper:=[mk (some 2) (.assign (.const (.bool true)))]
def csZ2 (S:SN):Code:=
 (.seq (rg (Ft S))
 (.seq (.seq (rg (Fs S))
  (.cond (tm 6) (.seq (rg (Fr S))
   .ret)
  .skip))
 (.seq (.seq (rg (Fq S))
  (.cond (tm 10) (.seq (rg (Fp S))
   .ret)
  .skip))
 (.seq (.seq (rg (Fo S))
  (.cond (tm 14) (.seq (rg (Fm S))
   .ret)
  .skip))
 (.seq (rg (Fl S))
 .ret)))))
def Fk (_S:SN):List Oper:=[mk (some 2) (.assign (.const (.bool false)))]
def Fj (S:SN):List Oper:=[mk (some 5) (.move (tm 0)),bi (some 6) .len [(tm 5)] [S.tGs] S.tInt,mk (some 7) (.binOp .gtr S.tInt (tm 6) (ki .i64 2147483647) 0)]
def Fi (_S:SN):List Oper:=[mk (some 2) (.assign (.const (.bool false)))]
def Fh (S:SN):List Oper:=[mk (some 8) (.move (tm 0)),bi (some 9) .len [(tm 8)] [S.tGs] S.tInt,mk (some 10) (.move (ki .i64 0))]
def Fg (S:SN):List Oper:=[mk (some 11) (.binOp .lss S.tInt (tm 10) (tm 9) 0)]
def Ff (S:SN):List Oper:=[mk (some 12) (.indexAddr S.tGs (tm 8) (tm 10)),mk (some 13) (.load S.tG (tm 12)),mk (some 4) (.alloc S.tG),mk none (.store S.tG (tm 4) (tm 13))]
def Fe (S:SN):List Oper:=[mk (some 14) (.load S.tG (tm 4)),cl (some 15) S.fZ4 [(tm 14)],mk (some 16) (.unOp .not S.tB (tm 15))]
def Fd (_S:SN):List Oper:=[mk (some 2) (.assign (.const (.bool false)))]
def Fc (S:SN):List Oper:=[mk (some 17) (.binOp .add S.tInt (tm 10) (ki .i64 1) 0),mk (some 10) (.move (tm 17))]
def Fb (_S:SN):List Oper:=[mk (some 2) (.assign (.const (.bool true)))]
def csZ3 (S:SN):Code:=
 (.seq (rg (Fk S))
 (.seq (.seq (rg (Fj S))
  (.cond (tm 7) (.seq (rg (Fi S))
   .ret)
  .skip))
 (.seq (.seq (rg (Fh S))
  (.block 0 (.loop (.seq (rg (Fg S))
  (.seq (.cond (tm 11) .skip
   (.exit 0))
  (.seq (.block 1 (.seq (rg (Ff S))
   (.seq (rg (Fe S))
   (.cond (tm 16) (.seq (rg (Fd S))
    .ret)
   .skip))))
  (rg (Fc S))))))))
 (.seq (rg (Fb S))
 .ret))))
def Fa (S:SN):List Oper:=[mk (some 1) (.box S.tG (tm 0)),mk (some 2) (.assign (.const (.bool false)))]
def EZ (S:SN):List Oper:=[mk (some 3) (.fieldAddr S.tG (tm 1) 1),mk (some 4) (.load S.tSl (tm 3)),bi (some 5) .len [(tm 4)] [S.tSl] S.tInt,mk (some 6) (.binOp .gtr S.tInt (tm 5) (ki .i64 2147483647) 0)]
def EY (_S:SN):List Oper:=[mk (some 2) (.assign (.const (.bool false)))]
def EX (_S:SN):List Oper:=[mk (some 2) (.assign (.const (.bool true)))]
def csZ4 (S:SN):Code:=
 (.seq (rg (Fa S))
 (.seq (.seq (rg (EZ S))
  (.cond (tm 6) (.seq (rg (EY S))
   .ret)
  .skip))
 (.seq (rg (EX S))
 .ret)))
end
section
open Go
set_option maxRecDepth 100000
structure LN where
 fM:Nat
 fB:Nat
 fV:Nat
 fA:Nat
end
structure TN where
 tTags:Nat
 tM:Nat
 tKs:Nat
 tU32:Nat
 tInt:Nat
 tSl:Nat
 fSort:Nat
 fLess:Nat
 fEach:Nat
 fOne:Nat
 fUv:Nat
def pc (T:TN)(n:Nat):List Oper:=[mk (some n) (.move (tm 0)),mk (some (n+1)) (.nilCheck (tm n)),mk (some (n+2)) (.fieldAddr T.tTags (tm (n+1)) 0),mk (some (n+3)) (.load T.tM (tm (n+2)))]
def r6 (T:TN):Code:=sq [rg [mk (some 27) (.entry (tm 24)),mk (some 28) (.extract (tm 27) 0),mk (some 5) (.assign (tm 28))],
 rg [mk (some 29) (.load T.tKs (tm 4)),mk (some 30) (.move (tm 5)),mk (some 31) (.buildSlice T.tKs 1 #[(0,tm 30)]),bi (some 32) .append [tm 29,tm 31] [T.tKs,T.tKs] T.tKs,mk none (.store T.tKs (tm 4) (tm 32))]]
def r4 (T:TN):Code:=.loop (.seq (rg [mk (some 25) (.next (tm 24) false),mk (some 26) (.extract (tm 25) 0)]) (.seq (.cond (tm 26) .skip (.exit 0)) (.block 1 (r6 T))))
def r5 (T:TN):Code:=sq [rg [mk (some 41) (.indexAddr T.tKs (tm 37) (tm 39)),mk (some 42) (.load T.tU32 (tm 41)),mk (some 7) (.assign (tm 42))],
 rg ([mk (some 43) (.move (tm 1)),mk (some 44) (.move (tm 7))]++pc T 45++[mk (some 49) (.move (tm 7)),mk (some 50) (.lookup T.tM (tm 48) (tm 49) false),mk (some 51) (.call ⟨.value (tm 43),#[tm 44,tm 50],#[]⟩)])]
def pg (T:TN):Code:=.loop (.seq (rg [mk (some 40) (.binOp .lss T.tInt (tm 39) (tm 38) 0)]) (.seq (.cond (tm 40) .skip (.exit 2)) (.seq (.block 3 (r5 T)) (rg [mk (some 52) (.binOp .add T.tInt (tm 39) (ki .i64 1) 0),mk (some 39) (.move (tm 52))]))))
def cEach (T:TN):Code:=
 .seq (.seq (rg (pc T 8++[bi (some 12) .len [tm 11] [T.tM] T.tInt,mk (some 13) (.binOp .eql T.tInt (tm 12) (ki .i64 0) 0)])) (.cond (tm 13) .ret .skip))
 (.seq (rg (pc T 14++[bi (some 18) .len [tm 17] [T.tM] T.tInt,mk (some 19) (.makeSlice T.tKs (ki .i64 0) (tm 18)),mk (some 4) (.alloc T.tKs),mk none (.store T.tKs (tm 4) (tm 19))]))
 (.seq (.seq (rg (pc T 20++[mk (some 24) (.range T.tM (tm 23))])) (.block 0 (r4 T)))
 (.seq (rg [mk (some 33) (.load T.tKs (tm 4)),mk (some 34) (.makeInterface T.tKs (tm 33)),mk (some 35) (.makeFunc (.func T.fLess) #[] #[tm 4]),cl (some 36) T.fSort [tm 34,tm 35]])
 (.seq (rg [mk (some 37) (.load T.tKs (tm 4)),bi (some 38) .len [tm 37] [T.tKs] T.tInt,mk (some 39) (.move (ki .i64 0))]) (.block 2 (pg T))))))
def cTEach (T:TN):Code:=sq [rg [mk (some 3) (.box T.tSl (tm 1)),mk (some 4) (.assign (.const aF))],rg [mk (some 5) (.move (tm 0)),mk (some 6) (.makeFunc (.func T.fOne) #[] #[tm 3]),cl (some 7) T.fEach [tm 5,tm 6]],
 rg [mk (some 8) (.load T.tSl (tm 3)),mk (some 4) (.assign (tm 8))],.ret]
def cTOne (T:TN):Code:=sq [rg [mk (some 5) (.load T.tSl (tm 2)),mk (some 6) (.move (tm 0)),cl (some 7) T.fUv [tm 5,tm 6],mk none (.store T.tSl (tm 2) (tm 7))],
 rg [mk (some 8) (.load T.tSl (tm 2)),mk (some 9) (.move (tm 1)),bi (some 10) .len [tm 9] [T.tSl] T.tInt,mk (some 11) (.convert T.tInt T.tU32 (tm 10)),cl (some 12) T.fUv [tm 8,tm 11],mk none (.store T.tSl (tm 2) (tm 12))],
 rg [mk (some 13) (.load T.tSl (tm 2)),mk (some 14) (.move (tm 1)),bi (some 15) .append [tm 13,tm 14] [T.tSl,T.tSl] T.tSl,mk none (.store T.tSl (tm 2) (tm 15))]]
end Go.Proofs.YtpoeajgpacfpoaaGreatDoor.Kx