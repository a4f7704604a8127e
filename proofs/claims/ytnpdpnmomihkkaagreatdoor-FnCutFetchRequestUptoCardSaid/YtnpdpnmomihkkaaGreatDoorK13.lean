/- messages, part 13 -/
import Derived.Test.YtnpdpnmomihkkaaGreatDoorK2
import Derived.Test.YtnpdpnmomihkkaaGreatDoorK11
import Derived.KernelRfl

namespace Go.Proofs.YtnpdpnmomihkkaaGreatDoor.Kx
open Go
def IB (P:Program)(t:Nat):Bool:=match P.info? t with
 | some i=>(match i.zero with|some (.int .u8 0)=>true|_=>false)&&i.size==1&&i.bytes==1
 | none=>false
theorem z8_ok {P:Program}{t:Nat}(h:IB P t=true):∃ i,P.info? t=some i/\i.zero=some (.int .u8 0)/\i.size=1/\i.bytes=1:=by
 unfold IB at h
 split at h
 ·rename_i i hi
  simp only[ac,ar]at h
  refine⟨i,hi,?_,h.1.2,h.2⟩
  have h1:=h.1.1
  split at h1
  ·assumption
  ·cases h1
 ·cases h
def IC (P:Program)(t:Nat):Bool:=match P.info? t with
 | some i=>(match i.zero with|some (.agg ⟨[.int .u32 0,.slice none 0 0]⟩)=>true|_=>false)&&i.size==2&&i.bytes==32
 | none=>false
theorem iG_ok {P:Program}{t:Nat}(h:IC P t=true):∃ i,P.info? t=some i/\i.zero=some (.agg #[.int .u32 0,bR])/\i.size=2/\i.bytes=32:=by
 unfold IC at h
 split at h
 ·rename_i i hi
  simp only[ac,ar]at h
  refine⟨i,hi,?_,h.1.2,h.2⟩
  have h1:=h.1.1
  split at h1
  ·assumption
  ·cases h1
 ·cases h
structure RefT (P:Program)(S:SN):Prop where
 mixed:P.follows .mixedOrders=true
 dInt:P.underlying S.tInt=some (.int .i64)
 dI64:P.underlying S.tI64=some (.int .i64)
 dU8:P.underlying S.tU8=some (.int .u8)
 dU32:P.underlying S.tU32=some (.int .u32)
 dU64:P.underlying S.tU64=some (.int .u64)
 oct:OctT P S.tSl S.tU8
 dTs:P.underlying S.tTs=some (.slice S.tT)
 dGs:P.underlying S.tGs=some (.slice S.tG)
 dFs:P.underlying S.tFs=some (.slice S.tF)
 vI64:cv P S.tI64 false 1
 vU8:cv P S.tU8 false 1
 vT:cv P S.tT true 5
 vF:cv P S.tF true 8
 vG:cv P S.tG true 2
 vM:cv P S.tMs true 2
 t0:cO P S.tT 0 S.tI64 0 false 1
 t1:cO P S.tT 1 S.tSl 1 false 1
 t2:cO P S.tT 2 S.tB 2 false 1
 t3:cO P S.tT 3 S.tTs 3 false 1
 t4:cO P S.tT 4 S.tGs 4 false 1
 f0:cO P S.tF 0 S.tInt 0 false 1
 f1:cO P S.tF 1 S.tInt 1 false 1
 f2:cO P S.tF 2 S.tInt 2 false 1
 f3:cO P S.tF 3 S.tInt 3 false 1
 f4:cO P S.tF 4 S.tInt 4 false 1
 f5:cO P S.tF 5 S.tI64 5 false 1
 f6:cO P S.tF 6 S.tInt 6 false 1
 f7:cO P S.tF 7 S.tFs 7 false 1
 g0:cO P S.tG 0 S.tU32 0 false 1
 g1:cO P S.tG 1 S.tSl 1 false 1
 m0:cO P S.tMs 0 S.tFs 0 false 1
 m1:cO P S.tMs 1 S.tInt 1 false 1
 zT:∀ w,(zeroValue S.tT).run P w=.ok (.agg #[.int .i64 0,bR,.bool false,bR,bR]) w
 zF:∀ w,(zeroValue S.tF).run P w=.ok (.agg #[.int .i64 0,.int .i64 0,.int .i64 0,.int .i64 0,.int .i64 0,.int .i64 0,.int .i64 0,bR]) w
 zG:∀ w,(zeroValue S.tG).run P w=.ok (.agg #[.int .u32 0,bR]) w
 zM:∀ w,(zeroValue S.tMs).run P w=.ok (.agg #[bR,.int .i64 0]) w
 z8:∃ i,P.info? S.tU8=some i/\i.zero=some (.int .u8 0)/\i.size=1/\i.bytes=1
 bT:∀ w,(Instr.build S.tT #[]).run P w=.ok (.agg #[.int .i64 0,bR,.bool false,bR,bR]) w
 bG:∀ w,(Instr.build S.tG #[]).run P w=.ok (.agg #[.int .u32 0,bR]) w
 bSG:∀ w,(Instr.buildSlice S.tGs 1 #[(0,.agg #[.int .u32 0,bR])]).run P w=.ok (.slice (some ⟨w.heap.size,0,none⟩) 1 1) (w.alloc (.cells #[.int .u32 0,bR] S.tG (0,0)))
 iG:∃ i,P.info? S.tG=some i/\i.zero=some (.agg #[.int .u32 0,bR])/\i.size=2/\i.bytes=32
def dW (w0 w:World):Prop:=br (λk=>w0.heap.size<=k) w0 w
theorem dW.refl (w:World):dW w w:=br.refl _ _
theorem dW.kn {w0 w w':World}(h:dW w0 w)(k:br (λ_=>False) w w'):dW w0 w':=br.trans h (k.mono λ_ _ h=>h.elim)
theorem dW.up {w0 w w':World}{X:Nat->Prop}(h:dW w0 w)(k:br X w w')(hX:∀ i,X i->w0.heap.size<=i):dW w0 w':=br.trans h (k.mono λi _ hx=>hX i hx)
theorem dW.cell {w0 w:World}(h:dW w0 w){b o:Nat}{v:Value}(hv:w0.cell? ⟨b,o,none⟩=some v):w.cell? ⟨b,o,none⟩=some v:=
 br.cell h (by have:=e8 hv;omega) hv
theorem dW.cells {w0 w:World}(h:dW w0 w){b o:Nat}{cs:List Value}(hv:bB w0 b o cs):bB w b o cs:=λj c hj=>h.cell (hv j c hj)
theorem dW.keeps {w0 w:World}(h:dW w0 w):br (λ_=>False) w0 w:=br.mono h λk hk hX=>by omega
theorem dW.of {w0 w:World}(h:br (λ_=>False) w0 w):dW w0 w:=h.mono λ_ _ h=>h.elim
theorem bB.kn {w w':World}(k:br (λ_=>False) w w'){b o:Nat}{cs:List Value}(hv:bB w b o cs):bB w' b o cs:=λj c hj=>k.cell id (hv j c hj)
def fi {α:Type}(w:World)(sz:Nat)(El:List Value->α->Prop)(v:Value)(xs:List α):Prop:=
 (∃ base,v=.slice base 0 0/\xs=[]) \/ ∃ b o c,v=.slice (some ⟨b,o,none⟩) xs.length c/\xs.length<=c/\c<=maxLen/\∀ i x,xs[i]?=some x->∃ cs,cs.length=sz/\bB w b (o+i*sz) cs/\El cs x
def r4 (w:World)(X:Nat->Prop)(v:Value)(l:Bs):Prop:=(∃ base,v=.slice base 0 0/\l=[]) \/ en w X v l
abbrev kR (w:World) (v:Value) (l:Bs):Prop:=r4 w (λ_=>False) v l
def jh (w:World)(cs:List Value)(p:UInt32 × Bs):Prop:=∃ v,cs=[.int .u32 (p.1.toNat:Int),v]/\kR w v p.2
def Tr.raw:Tr->List (UInt32 × Bs)|.mk _ _ _ _ u=>u
def TrRp (w:World):Nat->List Value->Tr->Prop
 | 0,_,_=>False
 | k+1,cs,t=>∃ sv lv uv,cs=[.int .i64 t.num,sv,.bool t.null,lv,uv]/\kR w sv t.octets/\fi w 5 (TrRp w k) lv t.list/\fi w 2 (jh w) uv t.raw
theorem fi.form {α:Type}{w:World}{sz:Nat}{El:List Value->α->Prop}{v:Value}{xs:List α}(h:fi w sz El v xs):∃ base c,v=.slice base xs.length c/\xs.length<=c/\xs.length<=maxLen/\(xs=[] \/ ∃ b o,base=some ⟨b,o,none⟩/\∀ i x,xs[i]?=some x->∃ cs,cs.length=sz/\bB w b (o+i*sz) cs/\El cs x):=by
 rcases h with⟨base,rfl,rfl⟩|⟨b,o,c,rfl,h1,h2,h3⟩
 ·exact⟨base,0,rfl,ae _,by simp[maxLen],.inl rfl⟩
 ·exact⟨_,c,rfl,h1,by omega,.inr ⟨b,o,rfl,h3⟩⟩
theorem fi.imp {α:Type}{w w':World}{sz:Nat}{El El':List Value->α->Prop}{v:Value}{xs:List α}(h:fi w sz El v xs)(hc:∀ b o cs,bB w b o cs->bB w' b o cs)(he:∀ cs x,El cs x->El' cs x):fi w' sz El' v xs:=by
 rcases h with h|⟨b,o,c,h1,h2,h3,h4⟩
 ·exact .inl h
 ·exact .inr ⟨b,o,c,h1,h2,h3,λi x hx=>by obtain⟨cs,a1,a2,a3⟩:=h4 i x hx;exact⟨cs,a1,hc _ _ _ a2,he _ _ a3⟩⟩
theorem en.far {w0 w:World}(h:dW w0 w){v:Value}{l:Bs}(hs:en w0 (λ_=>False) v l):en w (λ_=>False) v l:=
 en.mono ((hs.mono (Y:=λk=>w0.heap.size<=k) λk hk hX=>by omega).keep h) λ_ _ h=>h.elim
theorem r4.form {w:World}{X:Nat->Prop}{v:Value}{l:Bs}(h:r4 w X v l):∃ base c,v=.slice base l.length c/\(l=[] \/ ∃ b o,base=some ⟨b,o,none⟩/\io w b o l):=by
 rcases h with⟨base,rfl,rfl⟩|h
 ·exact⟨base,0,rfl,.inl rfl⟩
 ·exact h.form
theorem r4.keep {w w':World}{X:Nat->Prop}{v:Value}{l:Bs}(h:r4 w X v l)(hk:br X w w'):r4 w' X v l:=h.imp id λh=>h.keep hk
theorem r4.mono {w:World}{X Y:Nat->Prop}{v:Value}{l:Bs}(h:r4 w X v l)(hy:∀ k,k<w.heap.size->Y k->X k):r4 w Y v l:=h.imp id λh=>h.mono hy
theorem r4.far {w0 w:World}{v:Value}{l:Bs}(hs:kR w0 v l)(h:dW w0 w):kR w v l:=hs.imp id λhs=>hs.far h
theorem jh.far {w0 w:World}(h:dW w0 w){cs:List Value}{p:UInt32 × Bs}(hs:jh w0 cs p):jh w cs p:=by
 obtain⟨v,h1,h2⟩:=hs
 exact⟨v,h1,h2.far h⟩
theorem TrRp.far {w0 w:World}(h:dW w0 w):∀ {k:Nat} {cs:List Value} {t:Tr},TrRp w0 k cs t->TrRp w k cs t
 | 0,_,_,hs=>hs.elim
 | _+1,_,_,hs=>by
  obtain⟨sv,lv,uv,h1,h2,h3,h4⟩:=hs
  exact⟨sv,lv,uv,h1,h2.far h,h3.imp (λ_ _ _=>h.cells) (λ_ _ h5=>TrRp.far h h5),h4.imp (λ_ _ _=>h.cells) (λ_ _ h5=>h5.far h)⟩
theorem TrRp.up {w:World}:∀ {k m:Nat} {cs:List Value} {t:Tr},k<=m->TrRp w k cs t->TrRp w m cs t
 | 0,_,_,_,_,hs=>hs.elim
 | _+1,0,_,_,hm,_=>by omega
 | k+1,m+1,_,_,hm,hs=>by
  obtain⟨sv,lv,uv,h1,h2,h3,h4⟩:=hs
  exact⟨sv,lv,uv,h1,h2,h3.imp (λ_ _ _ h=>h) (λ_ _ h5=>TrRp.up aa h5),h4⟩
theorem TrRp.len {w:World}:∀ {k:Nat} {cs:List Value} {t:Tr},TrRp w k cs t->cs.length=5
 | 0,_,_,hs=>hs.elim
 | _+1,_,_,hs=>by obtain⟨sv,lv,uv,rfl,_⟩:=hs;rfl
theorem TrRp.zero (w:World):TrRp w 1 [.int .i64 0,bR,.bool false,bR,bR] .zero:=
 ⟨bR,bR,bR,rfl,.inl ⟨none,rfl,rfl⟩,.inl ⟨none,rfl,rfl⟩,.inl ⟨none,rfl,rfl⟩⟩
def SFs.len:SFs->Nat
 | .nil=>0
 | .cons _ _ _ _ _ _ _ _ r=>r.len+1
def jn (w:World):SFs->Nat->Nat->Prop
 | .nil,_,_=>True
 | .cons kind lo hi nul tag df of sub r,b,o=>
  (∃ sv,bB w b o [.int .i64 (kind:Int),.int .i64 lo,.int .i64 hi,.int .i64 nul,.int .i64 tag,.int .i64 df,.int .i64 (of:Int),sv] /\
   ((sub=.nil/\sv=bR) \/ ∃ b' o' c',sv=.slice (some ⟨b',o',none⟩) sub.len c'/\sub.len<=maxLen/\jn w sub b' o'))/\jn w r b (o+8)
def ge (w:World)(sf:SFs)(v:Value):Prop:=(sf=.nil/\v=bR) \/ ∃ b o c,v=.slice (some ⟨b,o,none⟩) sf.len c/\sf.len<=maxLen/\jn w sf b o
theorem jn.imp {w w':World}(hc:∀ b o cs,cs.length=8->bB w b o cs->bB w' b o cs):∀ (sf:SFs) (b o:Nat),jn w sf b o->jn w' sf b o
 | .nil,_,_,_=>trivial
 | .cons kind lo hi nul tag df of sub r,b,o,h=>by
  obtain⟨⟨sv,h1,h2⟩,h3⟩:=h
  refine⟨⟨sv,hc _ _ _ rfl h1,?_⟩,jn.imp hc r b _ h3⟩
  rcases h2 with h2|⟨b',o',c',a1,a2,a3⟩
  ·exact .inl h2
  ·exact .inr ⟨b',o',c',a1,a2,jn.imp hc sub b' o' a3⟩
theorem ge.far {w0 w:World}(h:dW w0 w){sf:SFs}{v:Value}(hs:ge w0 sf v):ge w sf v:=by
 rcases hs with hs|⟨b,o,c,a1,a2,a3⟩
 ·exact .inl hs
 ·exact .inr ⟨b,o,c,a1,a2,a3.imp (λ_ _ _ _=>h.cells) sf b o⟩
theorem ge.form {w:World}{sf:SFs}{v:Value}(h:ge w sf v):∃ base c,v=.slice base sf.len c/\sf.len<=maxLen/\(sf=.nil \/ ∃ b o,base=some ⟨b,o,none⟩/\jn w sf b o):=by
 rcases h with⟨rfl,rfl⟩|⟨b,o,c,rfl,h1,h2⟩
 ·exact⟨none,0,rfl,by simp[SFs.len,maxLen],.inl rfl⟩
 ·exact⟨_,c,rfl,h1,.inr ⟨b,o,rfl,h2⟩⟩
def bW (kind:Nat)(lo hi nul tag df:Int)(of:Nat)(sv:Value):List Value:=[.int .i64 (kind:Int),.int .i64 lo,.int .i64 hi,.int .i64 nul,.int .i64 tag,.int .i64 df,.int .i64 (of:Int),sv]
section
variable {P:Program} {S:SN}
theorem iy (ot:OctT P S.tSl S.tU8){w:World}{L:Nat}{v:Value}{bs:Bs}(h:bS w L S.tU8 v bs):Src P 1 S.tSl v bs.length (bs.map cP) w:=by
 rcases h with⟨rfl,rfl⟩|⟨g,c,cur,rfl,_,hg,_,_,_,JD⟩
 ·exact Src.ofNil w ot.und 0
 ·refine Src.ofSlice w ot.und ⟨g,0,none⟩ _ c _ ab (λj u hj=>?_) (λu hu=>?_)
  ·simp only[aD,aK]at hj
   obtain⟨x,hx,rfl⟩:=hj
   rw[Addr.add_lit]
   simp[World.cell?,hg,JD j x hx]
  ·simp only[aP]at hu
   obtain⟨x,_,rfl⟩:=hu
   rfl
theorem EH (ot:OctT P S.tSl S.tU8){w:World}{X:Nat->Prop}{v:Value}{bs:Bs}(h:en w X v bs):Src P 1 S.tSl v bs.length (bs.map cP) w:=by
 rcases h with⟨rfl,rfl⟩|⟨b,o,c,rfl,_,_,_,_,JD⟩
 ·exact Src.ofNil w ot.und 0
 ·refine Src.ofSlice w ot.und ⟨b,o,none⟩ _ c _ ab (λj u hj=>?_) (λu hu=>?_)
  ·simp only[aD,aK]at hj
   obtain⟨x,hx,rfl⟩:=hj
   rw[Addr.add_lit]
   exact JD j x hx
  ·simp only[aP]at hu
   obtain⟨x,_,rfl⟩:=hu
   rfl
theorem vN (ot:OctT P S.tSl S.tU8){w:World}{X:Nat->Prop}{v:Value}{bs:Bs}(h:r4 w X v bs):Src P 1 S.tSl v bs.length (bs.map cP) w:=by
 rcases h with⟨base,rfl,rfl⟩|h
 ·cases base with
  | none=>exact Src.ofNil w ot.und 0
  | some a=>exact Src.ofSlice w ot.und a _ 0 _ ab (λj u hj=>by simp at hj) (λu hu=>by simp at hu)
 ·exact EH ot h
variable {ops:Array Oper} {Q:Exit->Act->World->Prop} {r:List Oper} {n:Nat} {a:Act} {w:World} {l:List (Nat × Value)}
theorem j5 (h:St n a l)(ot:OctT P S.tSl S.tU8){d L:Nat}{x y:Operand}{dv sv:Value}{bs ss:Bs}(hx:Hd l x dv)(hy:Hd l y sv)(hd:bS w L S.tU8 dv bs)(hs:Src P 1 S.tSl sv ss.length (ss.map cP) w)(hL:L<=w.heap.size)(hlim:bs.length+ss.length<=fq)(Ur:d<n)
  (c:∀ v w' a',Gr L S.tU8 dv w v (bs++ss) w'->St n a' ((d,v)::l)->wpList P ops Q r a' w'):wpList P ops Q (bi (some d) .append [x,y] [S.tSl,S.tSl] S.tSl::r) a w:=by
 obtain⟨v,w',Jl,hg⟩:=i0 (tx:=S.tSl) (ty:=S.tSl) ot hd hs hL hlim
 have hw:Region.wanted (bi (some d) .append [x,y] [S.tSl,S.tSl] S.tSl) (yielded ops a.tmps)=true:=by simp[Region.wanted,bi]
 unfold wpList
 rw[ax hw]
 refine .inl ?_
 unfold Oper.wp
 have:(execOp a.eval (bi (some d) .append [x,y] [S.tSl,S.tSl] S.tSl)).run P w=.ok (.value v) w':=by
  simp[execOp,bi,resolve,invoke,builtin,hx n a h,hy n a h,Jl]
 rw[this]
 exact c v w' _ hg (h.put v Ur)
theorem rP (h:St n a l)(ot:OctT P S.tSl S.tU8){d:Nat}{x:Operand}{b:UInt8}(hx:Hd l x (cP b))(Ur:d<n)
  (c:∀ v a',bS (w.alloc (.cells #[cP b] S.tU8 (0,0))) w.heap.size S.tU8 v [b]->St n a' ((d,v)::l)->wpList P ops Q r a' (w.alloc (.cells #[cP b] S.tU8 (0,0)))):wpList P ops Q (mk (some d) (.buildSlice S.tSl 1 #[(0,x)])::r) a w:=by
 refine jR (l:=[b]) (ps:=[(0,x)]) ot (by simp[hx n a h,xO]) ab ab ?_
 refine c _ _ ?_ (h.put _ Ur)
 exact .inr ⟨w.heap.size,1,#[cP b],rfl,ae _,Go.heap_alloc_new w _,by simp,by simp[maxLen],by simp,λi x hx=>by
  cases i with
  | zero=>simp at hx;subst hx;rfl
  | succ i=>simp at hx⟩
variable {I:World->Prop} {K:Act->Prop}
theorem eQ (h:St n a l){d:Nat}{x:Operand}{v:Value}(hx:Hd l x v)(hd:d<n)(c:∀ a',St n a' ((d,v)::l)->iR P I r a' K):iR P I (mk (some d) (.move x)::r) a K:=
 iF (c _ (by rw[hx n a h];exact h.put v hd))
theorem lx (h:St n a l){d:Nat}{x:Operand}{T k F B O off sz:Nat}{agg:Bool}(hx:Hd l x (pt B O))(hF:cO P T k F off agg sz)(hd:d<n)(c:∀ a',St n a' ((d,pt B (O+off))::l)->iR P I r a' K) :
  iR P I (mk (some d) (.fieldAddr T x k)::r) a K:=wZ (hx n a h) hF (c _ (h.put _ hd))
theorem iX (h:St n a l){d:Nat}{x:Operand}{F B O sz:Nat}{v:Value}(hx:Hd l x (pt B O))(hF:cv P F false sz)(hv:∀ w,I w->w.cell? ⟨B,O,none⟩=some v)(hd:d<n)(c:∀ a',St n a' ((d,v)::l)->iR P I r a' K) :
  iR P I (mk (some d) (.load F x)::r) a K:=gT (hx n a h) (λw=>hF.agg w) hv (c _ (h.put _ hd))
theorem iz (h:St n a l){d:Nat}{x:Operand}{F B O:Nat}{cs:List Value}(hx:Hd l x (pt B O))(hF:cv P F true cs.length)(hv:∀ w,I w->bB w B O cs)(hd:d<n)(c:∀ a',St n a' ((d,.agg cs.toArray)::l)->iR P I r a' K) :
  iR P I (mk (some d) (.load F x)::r) a K:=by
 refine⟨.agg cs.toArray,λw hI=>?_,c _ (h.put _ hd)⟩
 have hl:=run_loadCells_list (P:=P) w ⟨B,O,none⟩ cs (λj v hj=>by rw[Addr.add_lit];exact hv w hI j v hj)
 have e:=hx n a h
 simp only[pt]at e
 simp[execOp,mk,e,Instr.loadAt,Instr.sureAddr,loadVar,hF.agg w,hF.size w,hl]
theorem A0 (h:St n a l){d:Nat}{x y:Operand}{F E b o m c i sz:Nat}{k:IntKind}(hx:Hd l x (.slice (some ⟨b,o,none⟩) m c))(hy:Hd l y (.int k (i:Nat)))(hi:i<m)(hF:P.underlying F=some (.slice E))(hs:∀ w,(sizeOf E).run P w=.ok sz w)(hd:d<n)
  (q:∀ a',St n a' ((d,pt b (o+i*sz))::l)->iR P I r a' K):iR P I (mk (some d) (.indexAddr F x y)::r) a K:=jC (hx n a h) (hy n a h) hi hF hs (q _ (h.put _ hd))
theorem lw (h:K a):iR P I [] a K:=h
theorem lq (hI:I w)(h:Q .normal a w):gF P I Q [] a w:=⟨hI,h⟩
theorem iM (h:St n a l)(hI:I w){d:Nat}{x:Operand}{v:Value}(hx:Hd l x v)(hd:d<n)(c:∀ a',St n a' ((d,v)::l)->gF P I Q r a' w):gF P I Q (mk (some d) (.assign x)::r) a w:=by
 refine⟨hI,?_⟩
 show(mk (some d) (.assign x)).wp P a w (gF P I Q r) _
 unfold Oper.wp
 have:(execOp a.eval (mk (some d) (.assign x))).run P w=.ok (.value v) w:=by
  simp[execOp,mk,hx n a h]
 rw[this]
 exact c _ (h.put v hd)
theorem eC (h:St n a l)(hI:I w){d f:Nat}{args:List Operand}{vs:List Value}{R:Ending->World->Prop}(hf:Ent P f)(J4:∀ (n:Nat) (a:Act),St n a l->args.map a.eval=vs)(hc:Calls P f vs.toArray w R)(hd:d<n)
  (c:∀ e w',R e w'->∃ v,e=.returned v/\∀ a',St n a' ((d,v)::l)->gF P I Q r a' w'):gF P I Q (cl (some d) f args::r) a w:=by
 refine⟨hI,?_⟩
 unfold Oper.wp
 have:(execOp a.eval (cl (some d) f args)).run P w=.ok (.enter f vs.toArray) w:=by
  have he:a.eval (.func f)=.func (.func f) #[] #[]:=rfl
  have ha:=J4 n a h
  have Qy:(args.map a.eval).toArray=vs.toArray:=by rw[ha]
  simp only[cl,execOp,mk,resolve,he,Deferred.ofValue,invoke,Sem.run_bind,Sem.run_pure,Result.andThen_ok,Array.empty_append,Array.append_empty,List.map_toArray,Qy]
  exact hf _ _
 rw[this]
 exact hc.mono λe w' hR=>by
  obtain⟨v,rfl,hk⟩:=c e w' hR
  exact hk _ (h.put _ hd)
theorem vO (h:St n a l)(hI:I w)(ot:OctT P S.tSl S.tU8){d L:Nat}{x y:Operand}{dv sv:Value}{bs ss:Bs}(hx:Hd l x dv)(hy:Hd l y sv)(hd:bS w L S.tU8 dv bs)(hs:Src P 1 S.tSl sv ss.length (ss.map cP) w)(hL:L<=w.heap.size)(hlim:bs.length+ss.length<=fq)(Ur:d<n)
  (c:∀ v w' a',Gr L S.tU8 dv w v (bs++ss) w'->St n a' ((d,v)::l)->gF P I Q r a' w'):gF P I Q (bi (some d) .append [x,y] [S.tSl,S.tSl] S.tSl::r) a w:=by
 obtain⟨v,w',Jl,hg⟩:=i0 (tx:=S.tSl) (ty:=S.tSl) ot hd hs hL hlim
 refine⟨hI,?_⟩
 unfold Oper.wp
 have:(execOp a.eval (bi (some d) .append [x,y] [S.tSl,S.tSl] S.tSl)).run P w=.ok (.value v) w':=by
  simp[execOp,bi,resolve,invoke,builtin,hx n a h,hy n a h,Jl]
 rw[this]
 exact c v w' _ hg (h.put v Ur)
theorem uF {l':List Oper}{R:Exit->Act->World->Prop}(loud:List Bool)(I:World->Prop)(hl:fo l'=loud)(h:iR P I (fu l' loud) a (λaf=>gF P I R (dQ l' loud) af w.drew)):cf P (.region 1 l'.toArray true) R a w:=.drw I (by rw[hl];exact h)
end
section
open Go
set_option maxRecDepth 4000
def BQ:Nat->List Value->List (Nat × Value)
 | _,[]=>[]
 | i,v::r=>(i,v)::BQ (i+1) r
theorem lD:∀ (l:List Value) (i j:Nat) (v:Value),(BQ i l).lookup j=some v->i<=j/\l[j-i]?=some v
 | [],_,_,_,h=>by cases h
 | x::r,i,j,v,h=>by
  simp only[BQ,bh]at h
  by_cases hj:j=i
  ·subst hj
   simp only[beq_self_eq_true]at h
   exact⟨ae _,by simpa using h⟩
  ·have:(j==i)=false:=by simp[hj]
   rw[this]at h
   obtain⟨h1,h2⟩:=lD r (i+1) j v h
   refine⟨by omega,?_⟩
   rw[show j-i=(j-(i+1))+1 by omega]
   simpa using h2
section
variable {P:Program} {S:SN}
theorem fb (hm:P.follows .mixedOrders=true){f ntmps:Nat}{res:List Nat}{c:Code}{w:World}{RR:Ending->World->Prop}(hfn:FnIs P f ntmps res c)(hl:res.length<=2)(args:List Value)(Jg:args.length<=ntmps)
  (h:∀ a,St ntmps a (BQ 0 args)->cf P c (Rt (λa' w'=>a'.defers=[]/\RR (.returned (cE res a')) w') (λa' w'=>a'.defers=[]/\RR (.returned (cE res a')) w')) a w):Calls P f args.toArray w RR:=
 ic hm hfn hl args Jg λa harg hs hd=>h a ⟨hs,hd,λi v hi=>by
  obtain⟨_,h2⟩:=lD args 0 i v hi
  exact harg i v (by simpa using h2)⟩
theorem iH {n t:Nat}{a:Act}{w:World}{l:List (Nat × Value)}{v:Value}{RR:Ending->World->Prop}(h:St n a l)(hv:l.lookup t=some v)(hR:RR (.returned v) w):a.defers=[]/\RR (.returned (cE [t] a)) w:=
 ⟨h.defers,by rw[fc,h.get t v hv];exact hR⟩
theorem yr (T:RefT P S)(hfn:FnIs P S.fWid 11 [2] (csWd S))(kind:Nat)(w:World):Calls P S.fWid [.int .i64 (kind:Int)].toArray w λe w'=>e=.returned (.int .i64 (da kind:Int))/\w'=w:=by
 refine fb T.mixed hfn ab _ ab λa h=>?_
 unfold csWd
 refine bI (cq (b5 h .i aa λa h=>wpList_nil ?_))
 refine bI (bI (cq (b9 h (.t rfl) aa λa h=>wpList_nil ?_)))
 refine .block (bI (cq (cy h rfl (.t rfl) .i aa λa h=>b5 h (.t rfl) aa λa h=>wpList_nil ?_)))
 refine cA h rfl (λhb=>?_) (λhb=>?_)
 ·refine bI (cq (b5 h .i aa λa h=>wpList_nil (.ret ?_)))
  have hk:kind=1:=by simp[cg]at hb;omega
  refine iH (RR:=λe w'=>e=.returned (.int .i64 (da kind:Int))/\w'=w) h rfl ⟨?_,rfl⟩
  simp[da,hk]
 have h1:kind≠1:=by simp[cg]at hb;omega
 have rest:∀ (b:Bool) (a:Act) (l:List (Nat × Value)),St 11 a l->l.lookup 3=some (.int .i64 (kind:Int))->l.lookup 6=some (.bool b)->b=decide (kind=2 \/ kind=5) ->
   cf P (.cond (tm 6) (.seq (rg (DQ S)) .ret) (.seq (rg (DP S)) (.cond (tm 9) (.seq (rg (DO S)) .ret) .skip))) (Exit.inBlock 0 (Exit.then (cf P (.seq (rg (DN S)) .ret) (Rt (λa' w'=>a'.defers=[]/\Ending.returned (cE [2] a')=.returned (.int .i64 (da kind:Int))/\w'=w) (λa' w'=>a'.defers=[]/\Ending.returned (cE [2] a')=.returned (.int .i64 (da kind:Int))/\w'=w))) (Rt (λa' w'=>a'.defers=[]/\Ending.returned (cE [2] a')=.returned (.int .i64 (da kind:Int))/\w'=w) (λa' w'=>a'.defers=[]/\Ending.returned (cE [2] a')=.returned (.int .i64 (da kind:Int))/\w'=w)))) a w:=by
  intro b a l h h3 h6 Vr
  refine cA h h6 (λhb=>?_) (λhb=>?_)
  ·refine bI (cq (b5 h .i aa λa h=>wpList_nil (.ret ?_)))
   refine iH (RR:=λe w'=>e=.returned (.int .i64 (da kind:Int))/\w'=w) h rfl ⟨?_,rfl⟩
   rw[hb]at Vr
   have hk:kind=2 \/ kind=5:=by simpa using Vr.symm
   simp[da,h1,hk]
  ·rw[hb]at Vr
   have hk:¬ (kind=2 \/ kind=5):=by simpa using Vr.symm
   refine bI (cq (cy h rfl (.t h3) .i aa λa h=>b5 h (.t rfl) aa λa h=>wpList_nil ?_))
   refine cA h rfl (λhb=>?_) (λhb=>?_)
   ·refine bI (cq (b5 h .i aa λa h=>wpList_nil (.ret ?_)))
    have IZ:kind=3:=by simp[cg]at hb;omega
    refine iH (RR:=λe w'=>e=.returned (.int .i64 (da kind:Int))/\w'=w) h rfl ⟨?_,rfl⟩
    simp[da,IZ]
   ·have IZ:kind≠3:=by simp[cg]at hb;omega
    refine .skip (bI (cq (b5 h .i aa λa h=>wpList_nil (.ret ?_))))
    refine iH (RR:=λe w'=>e=.returned (.int .i64 (da kind:Int))/\w'=w) h rfl ⟨?_,rfl⟩
    simp[da,h1,hk,IZ]
 refine bI (bI (cq (cy h rfl (.t rfl) .i aa λa h=>b5 h (.t rfl) aa λa h=>wpList_nil ?_)))
 refine cA h rfl (λhb=>?_) (λhb=>?_)
 ·have hk:kind=2:=by simp[cg]at hb;omega
  exact .skip (rest _ a _ h rfl rfl (by simp[cg,hk]))
 ·have hk:kind≠2:=by simp[cg]at hb;omega
  refine cq (cy h rfl (.t rfl) .i aa λa h=>b5 h (.t rfl) aa λa h=>wpList_nil ?_)
  refine rest _ a _ h rfl rfl ?_
  simp only[cg]
  exact decide_eq_decide.2 aa
end
end
section
open Go
set_option maxRecDepth 4000
section
variable {P:Program} {S:SN}
section
variable {ops:Array Oper} {Q:Exit->Act->World->Prop} {r:List Oper} {n:Nat} {a:Act} {w:World} {l:List (Nat × Value)}
theorem vL (h:St n a l){d t:Nat}{x y:Operand}{k:IntKind}{p q:Int}(hx:Hd l x (.int k p))(hy:Hd l y (.int k q))(hd:d<n)(c:∀ a',St n a' ((d,.int k (if q<p then q else p))::l)->wpList P ops Q r a' w) :
  wpList P ops Q (bi (some d) .min [x,y] [t,t] t::r) a w:=by
 have hw:Region.wanted (bi (some d) .min [x,y] [t,t] t) (yielded ops a.tmps)=true:=by simp[Region.wanted,bi]
 unfold wpList
 rw[ax hw]
 refine .inl ?_
 unfold Oper.wp
 have:(execOp a.eval (bi (some d) .min [x,y] [t,t] t)).run P w=.ok (.value (.int k (if q<p then q else p))) w:=by
  simp[execOp,bi,resolve,invoke,builtin,hx n a h,hy n a h,Builtin.min_,Builtin.min2]
 rw[this]
 exact c _ (h.put _ hd)
theorem EG (h:St n a l){d t:Nat}{x y:Operand}{k:IntKind}{p q:Int}(hx:Hd l x (.int k p))(hy:Hd l y (.int k q))(hd:d<n)(c:∀ a',St n a' ((d,.int k (if p<q then q else p))::l)->wpList P ops Q r a' w) :
  wpList P ops Q (bi (some d) .max [x,y] [t,t] t::r) a w:=by
 have hw:Region.wanted (bi (some d) .max [x,y] [t,t] t) (yielded ops a.tmps)=true:=by simp[Region.wanted,bi]
 unfold wpList
 rw[ax hw]
 refine .inl ?_
 unfold Oper.wp
 have:(execOp a.eval (bi (some d) .max [x,y] [t,t] t)).run P w=.ok (.value (.int k (if p<q then q else p))) w:=by
  simp[execOp,bi,resolve,invoke,builtin,hx n a h,hy n a h,Builtin.max_,Builtin.max2]
 rw[this]
 exact c _ (h.put _ hd)
theorem DE (h:St n a l){d ty:Nat}{b:Builtin}{args:List Operand}{tys:List Nat}{v:Value}{w':World}(Jl:(execOp a.eval (bi (some d) b args tys ty)).run P w=.ok (.value v) w')(hd:d<n)(c:∀ a',St n a' ((d,v)::l)->wpList P ops Q r a' w') :
  wpList P ops Q (bi (some d) b args tys ty::r) a w:=by
 have hw:Region.wanted (bi (some d) b args tys ty) (yielded ops a.tmps)=true:=by simp[Region.wanted,bi]
 unfold wpList
 rw[ax hw]
 refine .inl ?_
 unfold Oper.wp
 rw[Jl]
 exact c _ (h.put _ hd)
theorem ul {F E m c k sz:Nat}{base:Option Addr}{x y:Operand}{d:Option Nat}(hx:a.eval x=.slice base m c)(hy:a.eval y=.int .i64 (k:Int))(hk:k<=c)(hb:base=none->c=0)(hF:P.underlying F=some (.slice E))(hs:∀ w,(sizeOf E).run P w=.ok sz w) :
  (execOp a.eval (mk d (.slice F x none (some y) none))).run P w=.ok (.value (.slice base k c)) w:=by
 have JM:¬ ((k:Int)<0):=by omega
 cases base with
 | none=>
  obtain rfl:=hb rfl
  obtain rfl:k=0:=by omega
  simp[execOp,mk,hx,hy,Instr.sliceAt,Instr.slice,run_underlying hF,Instr.sliceBounds,Instr.sliceBound,asIntOf,hs]
 | some b=>
  by_cases hc:c=0
  ·subst hc
   obtain rfl:k=0:=by omega
   simp[execOp,mk,hx,hy,Instr.sliceAt,Instr.slice,run_underlying hF,Instr.sliceBounds,Instr.sliceBound,asIntOf,hs]
  ·simp[execOp,mk,hx,hy,Instr.sliceAt,Instr.slice,run_underlying hF,Instr.sliceBounds,Instr.sliceBound,asIntOf,hs,hk,Addr.add]
theorem mt (h:St n a l){d F E m c k sz:Nat}{base:Option Addr}{x y:Operand}(hx:Hd l x (.slice base m c))(hy:Hd l y (.int .i64 (k:Int)))(hk:k<=c)(hb:base=none->c=0)(hF:P.underlying F=some (.slice E))(hs:∀ w,(sizeOf E).run P w=.ok sz w)(hd:d<n)
  (q:∀ a',St n a' ((d,.slice base k c)::l)->wpList P ops Q r a' w):wpList P ops Q (mk (some d) (.slice F x none (some y) none)::r) a w:=
 bP (ul (hx n a h) (hy n a h) hk hb hF hs) (q _ (h.put _ hd))
end
section
variable {ops:Array Oper} {Q:Exit->Act->World->Prop} {r:List Oper} {n:Nat} {a:Act} {w:World} {l:List (Nat × Value)}
theorem jJ (h:St n a l){d j jd:Nat}{x:Operand}{b:Bool}{v:Value}{o:Oper}(ho:ops[j]?=some o)(Lb:o.dst=some jd)(hj:l.lookup jd=some (.bool b))(Lv:jd<n)(hx:Hd l x v)(hd:d<n)(c:∀ a',St n a' ((d,v)::l)->wpList P ops Q r a' w) :
  wpList P ops Q (gd d (.move x) j b::r) a w:=ox h ho Lb hj Lv (by simp[execOp,mk,hx n a h]) hd c
theorem ls (h:St n a l){d j jd:Nat}{x:Operand}{b:Bool}{o:Oper}{TT k F B O off sz:Nat}{agg:Bool}(ho:ops[j]?=some o)(Lb:o.dst=some jd)(hj:l.lookup jd=some (.bool b))(Lv:jd<n)(hx:Hd l x (pt B O))(hF:cO P TT k F off agg sz)(hd:d<n)(c:∀ a',St n a' ((d,pt B (O+off))::l)->wpList P ops Q r a' w) :
  wpList P ops Q (gd d (.fieldAddr TT x k) j b::r) a w:=by
 obtain⟨fs,f,h1,h2,h3,h4⟩:=hF.fld
 obtain⟨q,rfl⟩:∃ q,sz=q+1:=⟨sz-1,by have:=hF.pos;omega⟩
 have e:=hx n a h
 simp only[pt]at e
 have hn:∀ w,(sizeOf f.type).run P w=.ok (q+1) w:=λw=>by rw[h4];exact hF.var.size w
 refine ox h ho Lb hj Lv ?_ hd c
 simp[execOp,mk,e,Instr.fieldAt,run_underlying h1,h2,h3,fieldPlace,hn,Instr.sureAddr,Addr.add_lit,pt]
theorem iW (h:St n a l){d j jd:Nat}{x:Operand}{b:Bool}{o:Oper}{F B O sz:Nat}{v:Value}(ho:ops[j]?=some o)(Lb:o.dst=some jd)(hj:l.lookup jd=some (.bool b))(Lv:jd<n)(hx:Hd l x (pt B O))(hF:cv P F false sz)(hv:w.cell? ⟨B,O,none⟩=some v)(hd:d<n)(c:∀ a',St n a' ((d,v)::l)->wpList P ops Q r a' w) :
  wpList P ops Q (gd d (.load F x) j b::r) a w:=by
 have e:=hx n a h
 simp only[pt]at e
 refine ox h ho Lb hj Lv ?_ hd c
 simp[execOp,mk,e,Instr.loadAt,Instr.sureAddr,loadVar,hF.agg w,load,hv,Sem.run]
theorem my (h:St n a l){d j jd:Nat}{x y:Operand}{b:Bool}{o:Oper}{op:BinOp}{T:Nat}{k:IntKind}{p q:Int}(ho:ops[j]?=some o)(Lb:o.dst=some jd)(hj:l.lookup jd=some (.bool b))(Lv:jd<n)(hc:uQ op=true)(hx:Hd l x (.int k p))(hy:Hd l y (.int k q))(hd:d<n)(c:∀ a',St n a' ((d,.bool (cg op p q))::l)->wpList P ops Q r a' w) :
  wpList P ops Q (gd d (.binOp op T x y 0) j b::r) a w:=by
 refine ox h ho Lb hj Lv ?_ hd c
 have he:(eqGuard op T x y (.int k p) (.int k q)).run P w=.ok () w:=by
  unfold eqGuard
  cases op<;>simp
 simp only[execOp,mk,hx n a h,hy n a h,Sem.run_bind,he,Result.andThen_ok,jK (sY hc p q),Sem.run_pure]
theorem xB (h:St n a l){d j jd:Nat}{x y z:Operand}{b b':Bool}{u v:Value}{o:Oper}(ho:ops[j]?=some o)(Lb:o.dst=some jd)(hj:l.lookup jd=some (.bool b))(Lv:jd<n)(hx:Hd l x (.bool b'))(hy:Hd l y u)(hz:Hd l z v)(hd:d<n)(c:∀ a',St n a' ((d,if b' then u else v)::l)->wpList P ops Q r a' w) :
  wpList P ops Q (gd d (.pick x y z) j b::r) a w:=by
 refine ox h ho Lb hj Lv ?_ hd c
 cases b'<;>simp[execOp,mk,hx n a h,hy n a h,hz n a h,asBool]
theorem oR (h:St n a l){d j jd:Nat}{op:Op}{b:Bool}{o:Oper}(ho:ops[j]?=some o)(Lb:o.dst=some jd)(hj:l.lookup jd=some undef)(Lv:jd<n)(hd:d<n)
  (c:∀ a',St n a' ((d,undef)::l)->wpList P ops Q r a' w):wpList P ops Q (gd d op j b::r) a w:=by
 have hy:yielded ops a.tmps j=none:=by
  have:a.tmps[jd]?=some undef:=by
   have h1:=h.get _ _ hj
   rw[<- h1]
   simp[Act.get,h.size,Lv]
  simp[yielded,ho,Lb,this,undef]
 unfold wpList gd
 rw[al (by simp[Region.wanted,hy])]
 exact c _ (h.put _ hd)
end
theorem pU (m:Nat):(if(32767:Int)<(m:Int) then(32767:Int) else(m:Int))=((min m bX:Nat):Int):=by simp only[bX];split<;>omega
theorem Ab (T:RefT P S)(hfn:FnIs P S.fWhole 8 [2] (csWh S)){w:World}{X:Nat->Prop}{v:Value}{bs:Bs}(hv:r4 w X v bs) :
  Calls P S.fWhole [v].toArray w λe w'=>∃ v',e=.returned v'/\r4 w X v' (bs.take bX)/\w'=w:=by
 have KD:∃ base c,v=.slice base bs.length c/\bs.length<=c/\(base=none->c=0)/\r4 w X (.slice base (min bs.length bX) c) (bs.take bX):=by
  rcases hv with⟨base,rfl,rfl⟩|⟨rfl,rfl⟩|⟨b,o,c,rfl,h1,h2,h3,h4,h5⟩
  ·exact⟨base,0,rfl,ae _,λ_=>rfl,.inl ⟨base,by simp,by simp⟩⟩
  ·exact⟨none,0,rfl,ae _,λ_=>rfl,.inl ⟨none,by simp,by simp⟩⟩
  ·refine⟨_,c,rfl,h3,(λh=>by cases h),.inr <| .inr ⟨b,o,c,by rw[aG,Nat.min_comm],h1,h2,by rw[aG];omega,h4,λi x hx=>h5 i x ?_⟩⟩
   rw[aX]at hx
   split at hx
   ·exact hx
   ·cases hx
 obtain⟨base,c,rfl,hc,hb,hr⟩:=KD
 refine fb T.mixed hfn ab _ ab λa h=>?_
 unfold csWh
 refine bI (cq (b5 h .c aa λa h=>wpList_nil ?_))
 refine bI (cq (b9 h (.t rfl) aa λa h=>b9 h (.t rfl) aa λa h=>dP h (.t rfl) T.oct.und aa λa h=>vL h (.t rfl) .i aa λa h=>?_))
 rw[pU]at h
 refine mt h (.t rfl) (.t rfl) aa hb T.oct.und T.vU8.size aa λa h=>b5 h (.t rfl) aa λa h=>wpList_nil (.ret ?_)
 exact iH (RR:=λe w'=>∃ v',e=.returned v'/\r4 w X v' (bs.take bX)/\w'=w) h rfl ⟨_,rfl,hr,rfl⟩
theorem Ar (T:RefT P S)(hfn:FnIs P S.fThings 8 [2] (csTh S)){α:Type}{w:World}{El:List Value->α->Prop}{v:Value}{xs:List α}(hv:fi w 5 El v xs) :
  Calls P S.fThings [v].toArray w λe w'=>∃ v',e=.returned v'/\fi w 5 El v' (xs.take bX)/\w'=w:=by
 have KD:∃ base c,v=.slice base xs.length c/\xs.length<=c/\(base=none->c=0)/\fi w 5 El (.slice base (min xs.length bX) c) (xs.take bX):=by
  rcases hv with⟨base,rfl,rfl⟩|⟨b,o,c,rfl,h3,h4,h5⟩
  ·exact⟨base,0,rfl,ae _,λ_=>rfl,.inl ⟨base,by simp,by simp⟩⟩
  ·refine⟨_,c,rfl,h3,(λh=>by cases h),.inr ⟨b,o,c,by rw[aG,Nat.min_comm],by rw[aG];omega,h4,λi x hx=>h5 i x ?_⟩⟩
   rw[aX]at hx
   split at hx
   ·exact hx
   ·cases hx
 obtain⟨base,c,rfl,hc,hb,hr⟩:=KD
 refine fb T.mixed hfn ab _ ab λa h=>?_
 unfold csTh
 refine bI (cq (b5 h .c aa λa h=>wpList_nil ?_))
 refine bI (cq (b9 h (.t rfl) aa λa h=>b9 h (.t rfl) aa λa h=>dP h (.t rfl) T.dTs aa λa h=>vL h (.t rfl) .i aa λa h=>?_))
 rw[pU]at h
 refine mt h (.t rfl) (.t rfl) aa hb T.dTs T.vT.size aa λa h=>b5 h (.t rfl) aa λa h=>wpList_nil (.ret ?_)
 exact iH (RR:=λe w'=>∃ v',e=.returned v'/\fi w 5 El v' (xs.take bX)/\w'=w) h rfl ⟨_,rfl,hr,rfl⟩
theorem Cj (w:World)(cs:List Value)(T:Nat){o:Nat}{v:Value}(h:cs[o]?=some v):(w.alloc (.cells cs.toArray T (0,0))).cell? ⟨w.heap.size,0+o,none⟩=some v:=by
 have:=bO w (.cells cs.toArray T (0,0))
 simp only[World.cell?,this,Option.isSome_none,ag,ak,aN,aQ,h]
theorem dA (w:World)(cs:List Value)(T:Nat):bB (w.alloc (.cells cs.toArray T (0,0))) w.heap.size 0 cs:=λ_j _c hj=>Cj w cs T hj
theorem bB.at {w:World}{b o j:Nat}{cs:List Value}{v:Value}(h:bB w b o cs)(hj:cs[j]?=some v):w.cell? ⟨b,o+j,none⟩=some v:=h j v hj
theorem zg (T:RefT P S)(hfn:FnIs P S.fHas 20 [4] (csHs S))(kind:Nat)(lo hi nul tag df:Int)(of:Nat)(sv:Value)(ver:Int)(w:World) :
  Calls P S.fHas [.agg (bW kind lo hi nul tag df of sv).toArray,.int .i64 ver].toArray w λe w'=>e=.returned (.bool (mb lo hi ver))/\br (λ_=>False) w w':=by
 refine fb T.mixed hfn ab _ ab λa h=>?_
 unfold csHs
 refine bI (cq (fy h (.t rfl) aa λa h=>b5 h .c aa λa h=>wpList_nil ?_))
 have hk:br (λ_=>False) w (w.alloc (.cells (bW kind lo hi nul tag df of sv).toArray S.tF (0,0))):=br.alloc _ _ _
 have hc:=dA w (bW kind lo hi nul tag df of sv) S.tF
 generalize w.alloc (.cells (bW kind lo hi nul tag df of sv).toArray S.tF (0,0))=w1 at hk hc ⊢
 refine bI (cq ?_)
 refine cH h (.t rfl) T.f1 aa λa h=>ce h (.t rfl) T.f1.var (hc.at (j:=1) rfl) aa λa h=>b9 h (.t rfl) aa λa h=>cy h rfl (.t rfl) (.t rfl) aa λa h=>b9 h (.t rfl) aa λa h=>?_
 have fin:∀ (a:Act) (l:List (Nat × Value)) (b:Bool),St 20 a l->l.lookup 4=some (.bool b)->b=mb lo hi ver->cf P .ret (Rt (λa' w'=>a'.defers=[]/\Ending.returned (cE [4] a')=.returned (.bool (mb lo hi ver))/\br (λ_=>False) w w') (λa' w'=>a'.defers=[]/\Ending.returned (cE [4] a')=.returned (.bool (mb lo hi ver))/\br (λ_=>False) w w')) a w1:=λa l b h h4 hb=>
  .ret (iH (RR:=λe w'=>e=.returned (.bool (mb lo hi ver))/\br (λ_=>False) w w') h h4 ⟨by rw[hb],hk⟩)
 cases J2:cg .leq lo ver with
 | false=>
  rw[J2]at h
  refine cm h rfl rfl rfl aa ab aa λa h=>cm h rfl rfl rfl aa ab aa λa h=>cm h rfl rfl rfl aa ab aa λa h=>cm h rfl rfl rfl aa ab aa λa h=>?_
  refine oR h rfl rfl rfl aa aa λa h=>oR h rfl rfl rfl aa aa λa h=>oR h rfl rfl rfl aa aa λa h=>oR h rfl rfl rfl aa aa λa h=>?_
  refine cm h rfl rfl rfl aa ab aa λa h=>dZ h (.t rfl) (.t rfl) .c aa λa h=>b5 h (.t rfl) aa λa h=>wpList_nil (fin a _ _ h rfl ?_)
  simp only[cg,decide_eq_false_iff_not]at J2
  simp[mb,J2]
 | true=>
  rw[J2]at h
  refine ls h rfl rfl rfl aa (.t rfl) T.f2 aa λa h=>iW h rfl rfl rfl aa (.t rfl) T.f2.var (hc.at (j:=2) rfl) aa λa h=>my h rfl rfl rfl aa rfl (.t rfl) .i aa λa h=>jJ h rfl rfl rfl aa (.t rfl) aa λa h=>?_
  cases JH:cg .lss hi 0 with
  | true=>
   rw[JH]at h
   refine cm h rfl rfl rfl aa ab aa λa h=>cm h rfl rfl rfl aa ab aa λa h=>cm h rfl rfl rfl aa ab aa λa h=>cm h rfl rfl rfl aa ab aa λa h=>?_
   refine xB h rfl rfl rfl aa (.t rfl) .c (.t rfl) aa λa h=>dZ h (.t rfl) (.t rfl) .c aa λa h=>b5 h (.t rfl) aa λa h=>wpList_nil (fin a _ _ h rfl ?_)
   simp only[cg,ai]at J2 JH
   simp[mb,J2,JH]
  | false=>
   rw[JH]at h
   refine jJ h rfl rfl rfl aa (.t rfl) aa λa h=>ls h rfl rfl rfl aa (.t rfl) T.f2 aa λa h=>iW h rfl rfl rfl aa (.t rfl) T.f2.var (hc.at (j:=2) rfl) aa λa h=>my h rfl rfl rfl aa rfl (.t rfl) (.t rfl) aa λa h=>?_
   refine xB h rfl rfl rfl aa (.t rfl) .c (.t rfl) aa λa h=>dZ h (.t rfl) (.t rfl) .c aa λa h=>b5 h (.t rfl) aa λa h=>wpList_nil (fin a _ _ h rfl ?_)
   simp only[cg,ai,decide_eq_false_iff_not]at J2 JH
   simp[mb,J2,JH,cg]
theorem wG (T:RefT P S)(_vB:cv P S.tB false 1)(hfn:FnIs P S.fNull 20 [6] (csNu S))(kind:Nat)(lo hi nul tag df:Int)(of:Nat)(sv:Value)(ver:Int)(nm:Int)(tn:Bool)(x1 x3 x4:Value)(w:World) :
  Calls P S.fNull [.agg (bW kind lo hi nul tag df of sv).toArray,.int .i64 ver,.agg [.int .i64 nm,x1,.bool tn,x3,x4].toArray].toArray w λe w'=>e=.returned (.bool (tn&&cF nul ver))/\br (λ_=>False) w w':=by
 refine fb T.mixed hfn ab _ ab λa h=>?_
 unfold csNu
 refine bI (cq (fy h (.t rfl) aa λa h=>?_))
 have hk:br (λ_=>False) w (w.alloc (.cells (bW kind lo hi nul tag df of sv).toArray S.tF (0,0))):=br.alloc _ _ _
 have hc:=dA w (bW kind lo hi nul tag df of sv) S.tF
 generalize w.alloc (.cells (bW kind lo hi nul tag df of sv).toArray S.tF (0,0))=w1 at hk hc ⊢
 refine fy h (.t rfl) aa λa h=>b5 h .c aa λa h=>wpList_nil ?_
 have IV:br (λ_=>False) w1 (w1.alloc (.cells [.int .i64 nm,x1,.bool tn,x3,x4].toArray S.tT (0,0))):=br.alloc _ _ _
 have ht:=dA w1 [.int .i64 nm,x1,.bool tn,x3,x4] S.tT
 generalize w1.alloc (.cells [.int .i64 nm,x1,.bool tn,x3,x4].toArray S.tT (0,0))=w2 at IV ht ⊢
 have hc:=bB.kn IV hc
 have hk:=hk.trans IV
 refine bI (cq ?_)
 have fin:∀ (a:Act) (l:List (Nat × Value)) (b:Bool),St 20 a l->l.lookup 6=some (.bool b)->b=(tn&&cF nul ver)->cf P .ret (Rt (λa' w'=>a'.defers=[]/\Ending.returned (cE [6] a')=.returned (.bool (tn&&cF nul ver))/\br (λ_=>False) w w') (λa' w'=>a'.defers=[]/\Ending.returned (cE [6] a')=.returned (.bool (tn&&cF nul ver))/\br (λ_=>False) w w')) a w2:=λa l b h h4 hb=>
  .ret (iH (RR:=λe w'=>e=.returned (.bool (tn&&cF nul ver))/\br (λ_=>False) w w') h h4 ⟨by rw[hb],hk⟩)
 refine cH h (.t rfl) T.t2 aa λa h=>ce h (.t rfl) T.t2.var (ht.at (j:=2) rfl) aa λa h=>b9 h (.t rfl) aa λa h=>?_
 cases tn with
 | false=>
  refine cm h rfl rfl rfl aa ab aa λa h=>cm h rfl rfl rfl aa ab aa λa h=>cm h rfl rfl rfl aa ab aa λa h=>?_
  refine dZ h (.t rfl) (.t rfl) .c aa λa h=>b9 h (.t rfl) aa λa h=>?_
  refine cm h rfl rfl rfl aa ab aa λa h=>cm h rfl rfl rfl aa ab aa λa h=>cm h rfl rfl rfl aa ab aa λa h=>cm h rfl rfl rfl aa ab aa λa h=>?_
  exact dZ h (.t rfl) (.t rfl) .c aa λa h=>b5 h (.t rfl) aa λa h=>wpList_nil (fin a _ _ h rfl rfl)
 | true=>
  refine ls h rfl rfl rfl aa (.t rfl) T.f3 aa λa h=>iW h rfl rfl rfl aa (.t rfl) T.f3.var (hc.at (j:=3) rfl) aa λa h=>my h rfl rfl rfl aa rfl (.t rfl) .i aa λa h=>?_
  refine dZ h (.t rfl) (.t rfl) .c aa λa h=>b9 h (.t rfl) aa λa h=>?_
  cases hb:cg .geq nul 0 with
  | false=>
   rw[hb]at h
   refine cm h rfl rfl rfl aa ab aa λa h=>cm h rfl rfl rfl aa ab aa λa h=>cm h rfl rfl rfl aa ab aa λa h=>cm h rfl rfl rfl aa ab aa λa h=>?_
   refine dZ h (.t rfl) (.t rfl) .c aa λa h=>b5 h (.t rfl) aa λa h=>wpList_nil (fin a _ _ h rfl ?_)
   simp only[cg,decide_eq_false_iff_not]at hb
   simp[cF,hb]
  | true=>
   rw[hb]at h
   refine jJ h rfl rfl rfl aa (.t rfl) aa λa h=>ls h rfl rfl rfl aa (.t rfl) T.f3 aa λa h=>iW h rfl rfl rfl aa (.t rfl) T.f3.var (hc.at (j:=3) rfl) aa λa h=>my h rfl rfl rfl aa rfl (.t rfl) (.t rfl) aa λa h=>?_
   refine dZ h (.t rfl) (.t rfl) .c aa λa h=>b5 h (.t rfl) aa λa h=>wpList_nil (fin a _ _ h rfl ?_)
   simp only[cg,ai]at hb
   simp[cF,hb,cg]
end
end
section
open Go
set_option maxRecDepth 4000
theorem rD {f x:Nat}(h:127<x):dD (f+1) x=UInt8.ofNat (x%128+128)::dD f (x/128):=by
 simp only[dD]
 rw[al aa]
theorem rF {f x:Nat}(h:x<=127):dD f x=[UInt8.ofNat x]:=by
 cases f with
 | zero=>rfl
 | succ f=>simp only[dD];rw[ax aa]
theorem ov:∀ (f x:Nat),(dD f x).length<=f+1
 | 0,_=>by simp[dD]
 | f+1,x=>by
  have:=ov f (x/128)
  simp only[dD]
  split<;>simp<;>omega
section
variable {P:Program} {S:SN}
section
variable {ops:Array Oper} {Q:Exit->Act->World->Prop} {r:List Oper} {n:Nat} {a:Act} {w:World} {l:List (Nat × Value)}
theorem AF {k k2:IntKind}{A:Nat}{x:Int}{s:Nat}(hs:s<=k.bits)(w:World):(binOp .shr A (.int k x) (.int k2 (s:Int))).run P w=.ok (.int k (x/2^s)) w:=by
 have h1:¬ ((s:Int)<0):=by omega
 have h2:min s k.bits=s:=by omega
 have h3:(0:Int)<=2^s:=by
  have:=Int.pow_pos (n:=2) (m:=s) aa
  omega
 simp only[binOp,Op.shift,h1,ak,Int.toNat_natCast,h2,Sem.run_pure,Int.fdiv_eq_ediv_of_nonneg _ h3]
theorem Aw (h:St n a l){d:Nat}{x y:Operand}{T:Nat}{k k2:IntKind}{p:Int}{s:Nat}(hx:Hd l x (.int k p))(hy:Hd l y (.int k2 (s:Int)))(hs:s<=k.bits)(hd:d<n)(c:∀ a',St n a' ((d,.int k (p/2^s))::l)->wpList P ops Q r a' w) :
  wpList P ops Q (mk (some d) (.binOp .shr T x y 0)::r) a w:=by
 refine bP ?_ (c _ (h.put _ hd))
 have he:(eqGuard .shr T x y (.int k p) (.int k2 (s:Int))).run P w=.ok () w:=by
  unfold eqGuard
  simp
 simp only[execOp,mk,hx n a h,hy n a h,Sem.run_bind,he,Result.andThen_ok,AF hs,Sem.run_pure]
theorem Dg {A m:Nat}(hm:m<128)(w:World):(binOp .or A (.int .u8 (m:Int)) (.int .u8 128)).run P w=.ok (.int .u8 ((m+128:Nat):Int)) w:=by
 have e1:BitVec.ofInt IntKind.u8.bits (m:Int)=BitVec.ofNat IntKind.u8.bits m:=by simp
 have e2:BitVec.ofInt IntKind.u8.bits 128=BitVec.ofNat IntKind.u8.bits 128:=BitVec.ofInt_natCast (n:=128) ..
 have e3:m ||| 128=m+128:=by
  have:=Nat.two_pow_add_eq_or_of_lt (i:=7) (b:=m) aa 1
  rw[Nat.or_comm]
  simp at this
  omega
 have e4:(BitVec.ofNat IntKind.u8.bits m ||| BitVec.ofNat IntKind.u8.bits 128).toNat=m+128:=by
  rw[BitVec.toNat_or,BitVec.toNat_ofNat,BitVec.toNat_ofNat,aW (by simp[IntKind.bits];omega),aW (by simp[IntKind.bits]),e3]
 have hw:IntKind.u8.wrap ((m+128:Nat):Int)=((m+128:Nat):Int):=by simp[IntKind.wrap,IntKind.bits,IntKind.signed];omega
 have K5:(IntKind.u8≠IntKind.u8)=False:=by simp
 simp only[binOp,K5,ak,Op.intBits,e1,e2,e4,hw,Sem.run_pure]
theorem rQ (h:St n a l)(ot:OctT P S.tSl S.tU8){d1 d2 L:Nat}{x o:Operand}{dv:Value}{bs:Bs}{b:UInt8}(hx:Hd l x (cP b))(ho:∀ v,Hd ((d1,v)::l) o dv)(hd:bS w L S.tU8 dv bs)(hL:L<=w.heap.size)(hlim:bs.length+1<=fq)(h1:d1<n)(h2:d2<n)
  (c:∀ v u w' a',bS w' L S.tU8 v (bs++[b])->br (λk=>L<=k) w w'->St n a' ((d2,v)::(d1,u)::l)->wpList P ops Q r a' w'):wpList P ops Q (mk (some d1) (.buildSlice S.tSl 1 #[(0,x)])::bi (some d2) .append [o,tm d1] [S.tSl,S.tSl] S.tSl::r) a w:=by
 refine rP h ot hx h1 λu a1 hu h=>?_
 have hk:br (λ_=>False) w (w.alloc (.cells #[cP b] S.tU8 (0,0))):=br.alloc _ _ _
 refine j5 h ot (ho u) (.t ab) (hd.keep hk λ_ _ h=>h) (iy ot hu) (am hL hk.size) hlim h2 λv w' a' hg h=>?_
 exact c v u w' a' hg.dst ((hk.mono λ_ _ h=>h.elim).trans (hg.far (hd.keep hk λ_ _ h=>h))) h
end
def de (te:Nat)(bs:Bs)(w:World)(e:Ending)(w':World):Prop:=∃ v,e=.returned v/\bS w' w.heap.size te v bs/\br (λ_=>False) w w'
theorem rh {te:Nat}{bs:Bs}{w w':World}{v:Value}(hd:bS w' w.heap.size te v bs)(hk:dW w w'):de te bs w (.returned v) w':=⟨v,rfl,hd,hk.keeps⟩
theorem od {m:Nat}(h:m<256):(Value.int .u8 (m:Int))=cP (UInt8.ofNat m):=by
 simp only[cP]
 rw[Iv h]
theorem qG (T:RefT P S)(hfn:FnIs P S.fUv 20 [2] (csUvr S)){x:Nat}(hx:x<18446744073709551616)(w:World):Calls P S.fUv [.int .u64 (x:Int)].toArray w (de S.tU8 (uvar x) w):=by
 refine fb T.mixed hfn ab _ ab λa h=>?_
 unfold csUvr
 refine bI (cq (b5 h .c aa λa h=>wpList_nil ?_))
 refine bI (cq (b5 h .c aa λa h=>wpList_nil ?_))
 refine bI ?_
 refine fY (λm a' w'=>∃ f v bs,f<=9/\m<128^(f+1)/\bs++dD f m=uvar x/\bS w' w.heap.size S.tU8 v bs/\dW w w'/\St 20 a' [(0,.int .u64 (m:Int)),(3,v)]) x ⟨x,ae _,9,bR,[],ae _,by omega,rfl,bS.nil _ _ _,dW.refl w,h.pick ⟨rfl,rfl,trivial⟩⟩ ?_
 rintro m a w' hm ⟨f,v,bs,hf,YO,he,hd,hk,h⟩
 refine bI (bI (cq (b9 h (.t rfl) aa λa h=>cy h rfl (.t rfl) .i aa λa h=>wpList_nil ?_)))
 have Za:bs.length<=10:=by
  have h1:=congrArg List.length he
  have h2:=ov 9 x
  simp only[ad]at h1
  have:(uvar x).length<=10:=h2
  omega
 refine cA h rfl (λhb=>?_) (λhb=>?_)
 ·have OC:127<m:=by simp[cg]at hb;omega
  obtain⟨f,rfl⟩:∃ g,f=g+1:=⟨f-1,by
   rcases Nat.eq_zero_or_pos f with h0|h0
   ·subst h0;simp at YO;omega
   ·omega⟩
  rw[rD OC]at he
  refine .skip (.block (bI (cq ?_)))
  refine b9 h (.t rfl) aa λa h=>b9 h (.t rfl) aa λa h=>?_
  refine e7 h (.t rfl) .i ab (pK (.inr (.inr rfl)) (by simp only[IntKind.bits];omega) w') aa λa h=>gV h (.t rfl) T.dU64 T.dU8 aa λa h=>?_
  have hw:IntKind.u8.wrap ((m%128:Nat):Int)=((m%128:Nat):Int):=by simp[IntKind.wrap,IntKind.bits,IntKind.signed];omega
  rw[hw]at h
  refine e7 h (.t rfl) .i ab (Dg aa w') aa λa h=>?_
  rw[od aa]at h
  refine rQ h T.oct (.t rfl) (λ_=>.t rfl) hd hk.size (by simp only[fq];omega) aa aa λv2 u w2 a JW IV h=>b5 h (.t rfl) aa λa h=>wpList_nil ?_
  refine cq (b9 h (.t rfl) aa λa h=>Aw h (s:=7) (.t rfl) .i (by simp[IntKind.bits]) aa λa h=>b5 h (.t rfl) aa λa h=>wpList_nil ?_)
  have Xx:(m:Int)/2^7=((m/128:Nat):Int):=by simp
  rw[Xx]at h
  refine⟨m/128,by omega,by omega,f,v2,bs++[UInt8.ofNat (m%128+128)],by omega,?_,?_,JW,hk.trans IV,h.pick ⟨rfl,rfl,trivial⟩⟩
  ·have:m<128^(f+1)*128:=by rw[<- Nat.pow_succ];exact YO
   exact Nat.div_lt_of_lt_mul aa
  ·rw[<- he];simp
 ·have Jj:m<=127:=by simp[cg]at hb;omega
  rw[rF Jj]at he
  refine .exit ?_
  show cf P _ _ a w'
  refine bI (cq ?_)
  refine b9 h (.t rfl) aa λa h=>b9 h (.t rfl) aa λa h=>gV h (.t rfl) T.dU64 T.dU8 aa λa h=>?_
  have hw:IntKind.u8.wrap (m:Int)=(m:Int):=by simp[IntKind.wrap,IntKind.bits,IntKind.signed];omega
  rw[hw,od aa]at h
  refine rQ h T.oct (.t rfl) (λ_=>.t rfl) hd hk.size (by simp only[fq];omega) aa aa λv2 u w2 a JW IV h=>b5 h (.t rfl) aa λa h=>wpList_nil (.ret ?_)
  rw[he]at JW
  exact iH (RR:=de S.tU8 (uvar x) w) h rfl (rh JW (hk.trans IV))
theorem D5 (i:Nat)(x:Int):be (i+1) x=UInt8.ofNat (x/256^i%256).toNat::be i x:=rfl
theorem ro (T:RefT P S)(hfn:FnIs P S.fFix 22 [4] (csFi S))(x:Int){k:Nat}(Pj:k<=8)(w:World):Calls P S.fFix [.int .i64 x,.int .i64 (k:Int)].toArray w (de S.tU8 (be k x) w):=by
 refine fb T.mixed hfn ab _ ab λa h=>?_
 unfold csFi
 refine bI (cq (b5 h .c aa λa h=>wpList_nil ?_))
 refine bI (cq (b5 h .c aa λa h=>wpList_nil ?_))
 refine bI (bI (cq (b9 h (.t rfl) aa λa h=>e7 h (.t rfl) .i ab (l4 w) aa λa h=>b5 h (.t rfl) aa λa h=>wpList_nil ?_)))
 have SM:IntKind.i64.wrap ((k:Int)-1)=(k:Int)-1:=by simp[IntKind.wrap,IntKind.bits,IntKind.signed];omega
 rw[SM]at h
 refine fY (λm a' w'=>∃ v bs,bs.length<=8/\bs++be m x=be k x/\bS w' w.heap.size S.tU8 v bs/\dW w w'/\St 22 a' [(0,.int .i64 x),(6,.int .i64 ((m:Int)-1)),(5,v)]) k ⟨k,ae _,bR,[],by simp,rfl,bS.nil _ _ _,dW.refl w,h.pick ⟨rfl,rfl,rfl,trivial⟩⟩ ?_
 rintro m a w' hm ⟨v,bs,hbl0,he,hd,hk,h⟩
 refine bI (bI (cq (b9 h (.t rfl) aa λa h=>cy h rfl (.t rfl) .i aa λa h=>wpList_nil ?_)))
 have Za:bs.length+m=k:=by
  have h1:=congrArg List.length he
  simp only[ad,dx]at h1
  exact h1
 refine cA h rfl (λhb=>?_) (λhb=>?_)
 ·obtain⟨i,rfl⟩:∃ i,m=i+1:=⟨m-1,by simp[cg]at hb;omega⟩
  have hi:((i+1:Nat):Int)-1=(i:Int):=by omega
  rw[hi]at h
  refine .skip (bI (.block (cq ?_)))
  refine b9 h (.t rfl) aa λa h=>b9 h (.t rfl) aa λa h=>b9 h (.t rfl) aa λa h=>e7 h .i (.t rfl) ab (AI w') aa λa h=>?_
  have LS:IntKind.i64.wrap (8*(i:Int))=((8*i:Nat):Int):=by simp[IntKind.wrap,IntKind.bits,IntKind.signed];omega
  rw[LS]at h
  refine Aw h (s:=8*i) (.t rfl) (.t rfl) (by simp[IntKind.bits];omega) aa λa h=>gV h (.t rfl) T.dI64 T.dU8 aa λa h=>?_
  rw[zS]at h
  have hb8:(Value.int .u8 ((UInt8.ofNat (x/2^(8*i)%256).toNat).toNat:Int))=cP (UInt8.ofNat (x/256^i%256).toNat):=by
   have:(2:Int)^(8*i)=256^i:=by rw[Int.pow_mul];rfl
   rw[this];rfl
  rw[hb8]at h
  refine rQ h T.oct (.t rfl) (λ_=>.t rfl) hd hk.size (by simp only[fq];omega) aa aa λv2 u w2 a JW IV h=>b5 h (.t rfl) aa λa h=>wpList_nil ?_
  refine cq (b9 h (.t rfl) aa λa h=>e7 h (.t rfl) .i ab (l4 w2) aa λa h=>b5 h (.t rfl) aa λa h=>wpList_nil ?_)
  have KV:IntKind.i64.wrap ((i:Int)-1)=(i:Int)-1:=by simp[IntKind.wrap,IntKind.bits,IntKind.signed];omega
  rw[KV]at h
  refine⟨i,by omega,by omega,v2,bs++[UInt8.ofNat (x/256^i%256).toNat],by simp;omega,?_,JW,hk.trans IV,h.pick ⟨rfl,rfl,rfl,trivial⟩⟩
  rw[<- he,D5];simp
 ·have M1:m=0:=by simp[cg]at hb;omega
  subst M1
  refine .exit ?_
  show cf P _ _ a w'
  refine bI (cq (b9 h (.t rfl) aa λa h=>b5 h (.t rfl) aa λa h=>wpList_nil (.ret ?_)))
  simp only[be,aL]at he
  rw[he]at hd
  exact iH (RR:=de S.tU8 (be k x) w) h rfl (rh hd hk)
theorem zo (T:RefT P S)(XZ:Ent P S.fUv)(JC:∀ (x:Nat) (w:World),x<18446744073709551616->Calls P S.fUv [.int .u64 (x:Int)].toArray w (de S.tU8 (uvar x) w))(V1:Ent P S.fFix)(JA:∀ (x:Int) (k:Nat) (w:World),k<=8->Calls P S.fFix [.int .i64 x,.int .i64 (k:Int)].toArray w (de S.tU8 (be k x) w))
  (hfn:FnIs P S.fCnt 28 [8] (csCn S)) (fx null:Bool) {m k:Nat} (hm:m<=bX) (hk:k<=8) (w:World):Calls P S.fCnt [.bool fx,.bool null,.int .i64 (m:Int),.int .i64 (k:Int)].toArray w (de S.tU8 (js fx null m k) w):=by
 refine fb T.mixed hfn ab _ ab λa h=>?_
 unfold csCn
 have LF:m<32768:=by simp only[bX]at hm;omega
 refine bI (cq (b5 h .c aa λa h=>wpList_nil ?_))
 refine bI (.block (bI (cq (b9 h (.t rfl) aa λa h=>b9 h (.t rfl) aa λa h=>?_))))
 cases fx with
 | true=>
  refine jJ h rfl rfl rfl aa (.t rfl) aa λa h=>dZ h (.t rfl) (.t rfl) .c aa λa h=>b5 h (.t rfl) aa λa h=>wpList_nil ?_
  cases null with
  | true=>
   refine cA h rfl (λ_=>?_) (λhb=>by cases hb)
   refine bI (cq (rP h T.oct (b:=0) .i aa λv a hd h=>b5 h (.t rfl) aa λa h=>wpList_nil (.ret ?_)))
   exact iH (RR:=de S.tU8 (js true true m k) w) h rfl (rh hd (br.alloc _ _ _))
  | false=>
   refine cA h rfl (λhb=>by cases hb) (λ_=>?_)
   refine bI (cq (b9 h (.t rfl) aa λa h=>b5 h (.t rfl) aa λa h=>wpList_nil ?_))
   refine cA h rfl (λ_=>?_) (λhb=>by cases hb)
   refine bI (cq (b9 h (.t rfl) aa λa h=>gV h (.t rfl) T.dInt T.dU64 aa λa h=>e7 h (.t rfl) .i ab (eL w) aa λa h=>?_))
   have hw:IntKind.u64.wrap (IntKind.u64.wrap (m:Int)+1)=((m+1:Nat):Int):=by simp[IntKind.wrap,IntKind.bits,IntKind.signed];omega
   rw[hw]at h
   refine cX h XZ (vs:=[.int .u64 ((m+1:Nat):Int)]) (λn a h=>by simp only[List.map_cons,List.map_nil];rw[Hd.t (l:=_) rfl n a h]) (JC (m+1) w aa) aa λe w' hR=>?_
   obtain⟨v,rfl,hd,hk⟩:=hR
   refine⟨v,rfl,λa h=>b5 h (.t rfl) aa λa h=>wpList_nil (.ret ?_)⟩
   exact iH (RR:=de S.tU8 (js true false m k) w) h rfl ⟨v,rfl,hd,hk⟩
 | false=>
  refine cm h rfl rfl rfl aa ab aa λa h=>dZ h (.t rfl) (.t rfl) .c aa λa h=>b5 h (.t rfl) aa λa h=>wpList_nil ?_
  refine cA h rfl (λhb=>by cases hb) (λ_=>?_)
  refine bI (cq (b9 h (.t rfl) aa λa h=>b5 h (.t rfl) aa λa h=>wpList_nil ?_))
  refine cA h rfl (λhb=>by cases hb) (λ_=>?_)
  refine bI (cq (b9 h (.t rfl) aa λa h=>b5 h (.t rfl) aa λa h=>wpList_nil ?_))
  cases null with
  | true=>
   refine cA h rfl (λ_=>?_) (λhb=>by cases hb)
   refine bI (cq (b9 h (.t rfl) aa λa h=>?_))
   refine cX h V1 (vs:=[.int .i64 (-1),.int .i64 (k:Int)]) (λn a h=>by simp only[List.map_cons,List.map_nil];rw[Hd.t (l:=_) rfl n a h];rfl) (JA (-1) k w hk) aa λe w' hR=>?_
   obtain⟨v,rfl,hd,hk⟩:=hR
   refine⟨v,rfl,λa h=>b5 h (.t rfl) aa λa h=>wpList_nil (.ret ?_)⟩
   exact iH (RR:=de S.tU8 (js false true m k) w) h rfl ⟨v,rfl,hd,hk⟩
  | false=>
   refine cA h rfl (λhb=>by cases hb) (λ_=>?_)
   refine .skip (bI (cq (b9 h (.t rfl) aa λa h=>b9 h (.t rfl) aa λa h=>?_)))
   refine cX h V1 (vs:=[.int .i64 (m:Int),.int .i64 (k:Int)]) (λn a h=>by simp only[List.map_cons,List.map_nil];rw[Hd.t (l:=_) (i:=25) rfl n a h,Hd.t (l:=_) (i:=26) rfl n a h]) (JA m k w hk) aa λe w' hR=>?_
   obtain⟨v,rfl,hd,hk⟩:=hR
   refine⟨v,rfl,λa h=>b5 h (.t rfl) aa λa h=>wpList_nil (.ret ?_)⟩
   exact iH (RR:=de S.tU8 (js false false m k) w) h rfl ⟨v,rfl,hd,hk⟩
end
end
section
open Go
set_option maxRecDepth 4000
theorem BD {w:World}{T:Nat}{z:Value}{cs:List Value}(_hz:z.cells.size=cs.length):br (λ_=>False) w ((w.alloc (.cells z.cells T (0,0))).setRow w.heap.size cs.toArray)/\bB ((w.alloc (.cells z.cells T (0,0))).setRow w.heap.size cs.toArray) w.heap.size 0 cs:=by
 have hn:=bO w (.cells z.cells T (0,0))
 refine⟨?_,λj c hj=>?_⟩
 ·exact((br.alloc (λk=>k=w.heap.size) w _).trans (br.setRow _ _ _ _ rfl)).mono λk hk hX=>by omega
 ·have:=setRow_heap _ _ _ cs.toArray _ _ hn
  simp only[World.cell?,this,Option.isSome_none,ag,ak,aN,aQ,hj]
section
variable {P:Program} {S:SN}
section
variable {ops:Array Oper} {Q:Exit->Act->World->Prop} {r:List Oper} {n:Nat} {a:Act} {w:World} {l:List (Nat × Value)}
theorem nW (h:St n a l){d T:Nat}{z:Value}{x:Operand}{cs:List Value}(hz:∀ w,(zeroValue T).run P w=.ok z w)(L4:z.cells.size=cs.length)(hx:∀ v,Hd ((d,v)::l) x (.agg cs.toArray))(hs:∀ w,(sizeOf T).run P w=.ok cs.length w)(h1:∀ u∈cs,u.oneCell'=true)(hd:d<n)
  (c:∀ w' a',br (λ_=>False) w w'->bB w' w.heap.size 0 cs->St n a' ((d,pt w.heap.size 0)::l)->wpList P ops Q r a' w'):wpList P ops Q (mk (some d) (.alloc T)::mk none (.store T (tm d) x)::r) a w:=by
 refine gP h (hz w) hd λa h=>?_
 have hn:=BD (w:=w) (T:=T) L4
 exact ix h (.t ab) (hx _) (by simp[Value.cells]) hs (bO w _) L4 h1 (c _ _ hn.1 hn.2 h)
theorem kj (h:St n a l){d t:Nat}{ps:Array (Nat × Operand)}{qs:Array (Nat × Value)}{v:Value}(hp:∀ (n:Nat) (a:Act),St n a l->ps.map (λp=>(p.1,a.eval p.2))=qs)(hb:(Instr.build t qs).run P w=.ok v w)(hd:d<n)(c:∀ a',St n a' ((d,v)::l)->wpList P ops Q r a' w) :
  wpList P ops Q (mk (some d) (.build t ps)::r) a w:=by
 refine bP ?_ (c _ (h.put _ hd))
 have e:=hp n a h
 simp[execOp,mk,e,hb]
end
theorem pc (hm:P.follows .mixedOrders=true){f n s t:Nat}{c:Code}{w:World}{RR:Ending->World->Prop}(hfn:FnIsC P f n s t c)(args:List Value)(Jg:args.length<=n)
  (h:∀ a,St n a (BQ 0 args)->cf P c (Rt (λ_ _=>False) (λa w=>a.defers=[]/\∃ p v,a.get s=.pointer (some p)/\(loadVar t p).run P w=.ok v w/\RR (.returned v) w)) a w):Calls P f args.toArray w RR:=by
 refine hfn.calls hm (h _ ⟨dw args.toArray n (by simpa using Jg),rfl,λi v hi=>?_⟩)
 obtain⟨_,h2⟩:=lD args 0 i v hi
 have h2:args[i]?=some v:=by simpa using h2
 have IU:i<args.length:=(ah.1 h2).1
 rw[db _ _ _ (by simpa using IU)]
 have:=(ah.1 h2).2
 simpa using this
theorem kN (kind:Nat)(lo hi nul tag df:Int)(of:Nat){sv:Value}(h:sv.oneCell'=true):∀ u∈bW kind lo hi nul tag df of sv,u.oneCell'=true:=by
 intro u hu
 simp only[bW,aI,bd,or_false]at hu
 rcases hu with rfl|rfl|rfl|rfl|rfl|rfl|rfl|rfl<;>first|rfl|exact h
theorem oQ {w:World}{sub:SFs}{sv:Value}(h:(sub=.nil/\sv=bR) \/ ∃ b' o' c',sv=.slice (some ⟨b',o',none⟩) sub.len c'/\sub.len<=maxLen/\jn w sub b' o'):sv.oneCell'=true:=by
 rcases h with⟨_,rfl⟩|⟨_,_,_,rfl,_⟩<;>rfl
def fz:SFs->Bool
 | .nil=>true
 | .cons _ _ _ _ tag _ _ _ r=>decide (tag<1000)&&fz r
theorem nY:∀ sf:SFs,fz sf=true->bH sf<=1000
 | .nil,_=>by simp[bH]
 | .cons _ _ _ _ tag _ _ _ r,h=>by
  simp only[fz,ac,ai]at h
  have:=nY r h.2
  simp only[bH]
  split
  ·exact Nat.max_le.2 ⟨by omega,this⟩
  ·exact this
theorem uK (T:RefT P S)(hfn:FnIs P S.fKnown 23 [2] (csKw S)){sf:SFs}{fv:Value}(MG:fz sf=true)(w:World)(hf:ge w sf fv):Calls P S.fKnown [fv].toArray w λe w'=>e=.returned (.int .u32 (bH sf:Int))/\br (λ_=>False) w w':=by
 obtain⟨base,c,rfl,IT,J9⟩:=hf.form
 refine fb T.mixed hfn ab _ ab λa h=>?_
 unfold csKw
 refine bI (cq (b5 h .i aa λa h=>wpList_nil ?_))
 refine bI (cq (b5 h .i aa λa h=>wpList_nil ?_))
 refine bI (bI (cq (b9 h (.t rfl) aa λa h=>dP h (.t rfl) T.dFs aa λa h=>b9 h .i aa λa h=>wpList_nil ?_)))
 refine fY (λm a' w'=>∃ (i cur:Nat) (rest:SFs),i+m=sf.len/\rest.len=m/\fz rest=true/\Nat.max cur (bH rest)=bH sf/\(∀ b o,base=some ⟨b,o,none⟩->jn w sf b o->jn w rest b (o+i*8))/\br (λ_=>False) w w' /\
   St 23 a' [(6,.slice base sf.len c),(7,.int .i64 (sf.len:Int)),(8,.int .i64 (i:Int)),(3,.int .u32 (cur:Int))]) sf.len
  ⟨sf.len,ae _,0,0,sf,by omega,rfl,MG,by simp,λb o _ hh=>by simpa using hh,br.refl _ _,h.pick ⟨rfl,rfl,rfl,rfl,trivial⟩⟩ ?_
 rintro m a w1 hm ⟨i,cur,rest,Ou,M4,Ve,Li,JD,hk,h⟩
 refine bI (cq (cy h rfl (.t rfl) (.t rfl) aa λa h=>wpList_nil ?_))
 refine iU h rfl (λhb=>?_) (λhb=>?_)
 ·have IU:i<sf.len:=by simp[cg]at hb;omega
  refine .skip ?_
  cases hr:rest with
  | nil=>rw[hr]at M4;simp[SFs.len]at M4;omega
  | cons kind lo hi nul tag df of sub r=>
   subst hr
   obtain⟨b,o,rfl,RU⟩:=J9.resolve_left (λhh=>by rw[hh]at IU;simp[SFs.len]at IU)
   obtain⟨⟨sv,hc,JY⟩,M6⟩:=JD b o rfl RU
   simp only[fz,ac,ai]at Ve
   have Js:bB w1 b (o+i*8) (bW kind lo hi nul tag df of sv):=bB.kn hk hc
   refine bI (.block (bI (cq ?_)))
   refine fw h (sz:=8) (.t rfl) (.t rfl) IU T.dFs T.vF.size aa λa h=>dK h (cs:=bW kind lo hi nul tag df of sv) (.t rfl) T.vF Js aa λa h=>?_
   refine nW h (cs:=bW kind lo hi nul tag df of sv) T.zF rfl (λ_=>.t rfl) T.vF.size (kN kind lo hi nul tag df of (oQ JY)) aa λw2 a IV JA h=>wpList_nil ?_
   refine bI (cq (cH h (.t rfl) T.f4 aa λa h=>ce h (.t rfl) T.f4.var (JA.at (j:=4) rfl) aa λa h=>cy h rfl (.t rfl) .i aa λa h=>wpList_nil ?_))
   have step:∀ (a:Act) (l:List (Nat × Value)) (w3:World) (cur':Nat),St 23 a l->l.lookup 6=some (.slice (some ⟨b,o,none⟩) sf.len c)->l.lookup 7=some (.int .i64 (sf.len:Int))->l.lookup 8=some (.int .i64 (i:Int))->l.lookup 3=some (.int .u32 (cur':Int))->Nat.max cur' (bH r)=bH sf->br (λ_=>False) w w3 ->
     cf P (rg (Eh S)) (Exit.then (λa' w'=>∃ m',m'<=sf.len/\m'<m/\∃ (i cur:Nat) (rest:SFs),i+m'=sf.len/\rest.len=m'/\fz rest=true/\Nat.max cur (bH rest)=bH sf/\(∀ b' o',some (⟨b,o,none⟩:Addr)=some ⟨b',o',none⟩->jn w sf b' o'->jn w rest b' (o'+i*8))/\br (λ_=>False) w w' /\
      St 23 a' [(6,.slice (some ⟨b,o,none⟩) sf.len c),(7,.int .i64 (sf.len:Int)),(8,.int .i64 (i:Int)),(3,.int .u32 (cur:Int))]) (Exit.inBlock 0 (Exit.then (cf P (.seq (rg (Eg S)) .ret) (Rt (λa' w'=>a'.defers=[]/\Ending.returned (cE [2] a')=.returned (.int .u32 (bH sf:Int))/\br (λ_=>False) w w') (λa' w'=>a'.defers=[]/\Ending.returned (cE [2] a')=.returned (.int .u32 (bH sf:Int))/\br (λ_=>False) w w')))
       (Rt (λa' w'=>a'.defers=[]/\Ending.returned (cE [2] a')=.returned (.int .u32 (bH sf:Int))/\br (λ_=>False) w w') (λa' w'=>a'.defers=[]/\Ending.returned (cE [2] a')=.returned (.int .u32 (bH sf:Int))/\br (λ_=>False) w w'))))) a w3:=by
    intro a l w3 cur' h h6 h7 h8 h3 R6 IZ
    refine cq (e7 h (.t h8) .i ab (eL w3) aa λa h=>?_)
    have hw:IntKind.i64.wrap ((i:Int)+1)=((i+1:Nat):Int):=by simp only[maxLen]at IT;simp[IntKind.wrap,IntKind.bits,IntKind.signed];omega
    rw[hw]at h
    refine b9 h (.t rfl) aa λa h=>wpList_nil ?_
    refine⟨m-1,by omega,by omega,i+1,cur',r,by omega,by simp only[SFs.len]at M4;omega,Ve.2,R6,λb' o' hbo hh=>?_,IZ,h.pick ⟨?_,?_,rfl,?_,trivial⟩⟩
    ·have:=(JD b' o' hbo hh).2
     rw[show o'+(i+1)*8=o'+i*8+8 by omega]
     exact this
    ·simp only[bh];simpa using h6
    ·simp only[bh];simpa using h7
    ·simp only[bh];simpa using h3
   refine cA h rfl (λhb=>?_) (λhb=>?_)
   ·have h0:0<=tag:=by simp[cg]at hb;omega
    refine cq (b9 h (.t rfl) aa λa h=>cH h (.t rfl) T.f4 aa λa h=>ce h (.t rfl) T.f4.var (JA.at (j:=4) rfl) aa λa h=>gV h (.t rfl) T.dInt T.dU32 aa λa h=>e7 h (.t rfl) .i ab (eL w2) aa λa h=>?_)
    have hw:IntKind.u32.wrap (IntKind.u32.wrap tag+1)=((tag.toNat+1:Nat):Int):=by simp[IntKind.wrap,IntKind.bits,IntKind.signed];omega
    rw[hw]at h
    refine EG h (.t rfl) (.t rfl) aa λa h=>?_
    have R6:(if(cur:Int)<((tag.toNat+1:Nat):Int) then((tag.toNat+1:Nat):Int) else(cur:Int))=((Nat.max cur (tag.toNat+1):Nat):Int):=by
     show _=((max cur (tag.toNat+1):Nat):Int)
     split<;>omega
    rw[R6]at h
    refine b5 h (.t rfl) aa λa h=>wpList_nil ?_
    refine step a _ w2 _ h rfl rfl rfl rfl ?_ (hk.trans IV)
    rw[<- Li]
    simp only[bH,ax h0]
    show max (max cur (tag.toNat+1)) (bH r)=max cur (max (tag.toNat+1) (bH r))
    omega
   ·have h0:¬ 0<=tag:=by simp[cg]at hb;omega
    refine .skip (step a _ w2 cur h rfl rfl rfl rfl ?_ (hk.trans IV))
    rw[<- Li]
    simp only[bH,al h0]
 ·have JN:¬ i<sf.len:=by simp[cg]at hb;omega
  have M1:rest=.nil:=by
   cases rest with
   | nil=>rfl
   | cons=>simp only[SFs.len]at M4;omega
  subst M1
  refine .exit ?_
  show cf P _ _ a w1
  refine bI (cq (b9 h (.t rfl) aa λa h=>b5 h (.t rfl) aa λa h=>wpList_nil (.ret ?_)))
  have NQ:cur=bH sf:=by rw[<- Li];simp[bH]
  exact iH (RR:=λe w'=>e=.returned (.int .u32 (bH sf:Int))/\br (λ_=>False) w w') h rfl ⟨by rw[NQ],hk⟩
theorem fi.get {α:Type}{w:World}{sz:Nat}{El:List Value->α->Prop}{v:Value}{xs:List α}(h:fi w sz El v xs){i:Nat}{x:α}(hi:xs[i]?=some x):∃ b o c cs,v=.slice (some ⟨b,o,none⟩) xs.length c/\cs.length=sz/\bB w b (o+i*sz) cs/\El cs x:=by
 rcases h with⟨_,_,rfl⟩|⟨b,o,c,rfl,_,_,h3⟩
 ·simp at hi
 ·obtain⟨cs,a1,a2,a3⟩:=h3 i x hi
  exact⟨b,o,c,cs,rfl,a1,a2,a3⟩
theorem TrRp.one {w:World}:∀ {k:Nat} {cs:List Value} {t:Tr},TrRp w k cs t->∀ u∈cs,u.oneCell'=true
 | 0,_,_,hs=>hs.elim
 | _+1,_,_,hs=>by
  obtain⟨sv,lv,uv,rfl,h2,h3,h4⟩:=hs
  intro u hu
  simp only[aI,bd,or_false]at hu
  have a2:sv.oneCell'=true:=by obtain⟨_,_,rfl,_⟩:=h2.form;rfl
  have a3:lv.oneCell'=true:=by obtain⟨_,_,rfl,_⟩:=h3.form;rfl
  have a4:uv.oneCell'=true:=by obtain⟨_,_,rfl,_⟩:=h4.form;rfl
  rcases hu with rfl|rfl|rfl|rfl|rfl
  ·rfl
  ·exact a2
  ·rfl
  ·exact a3
  ·exact a4
theorem Cp (T:RefT P S)(hfn:FnIsC P S.fAt 16 4 S.tT (csAt S)){k i:Nat}{cs:List Value}{t:Tr}(w:World)(ht:TrRp w k cs t) :
  Calls P S.fAt [.agg cs.toArray,.int .i64 (i:Int)].toArray w λe w'=>∃ cs',e=.returned (.agg cs'.toArray)/\TrRp w k cs' (t.at i)/\br (λ_=>False) w w':=by
 cases k with
 | zero=>exact ht.elim
 | succ k=>
 have O5:=ht
 obtain⟨sv,lv,uv,rfl,h2,h3,h4⟩:=ht
 refine pc T.mixed hfn _ ab λa h=>?_
 unfold csAt
 refine bI (cq (fy h (.t rfl) aa λa h=>?_))
 have Jd:br (λ_=>False) w (w.alloc (.cells [.int .i64 t.num,sv,.bool t.null,lv,uv].toArray S.tT (0,0))):=br.alloc _ _ _
 have JC:=dA w [.int .i64 t.num,sv,.bool t.null,lv,uv] S.tT
 have IX:(w.alloc (.cells [.int .i64 t.num,sv,.bool t.null,lv,uv].toArray S.tT (0,0))).heap.size=w.heap.size+1:=by simp
 generalize w.alloc (.cells [.int .i64 t.num,sv,.bool t.null,lv,uv].toArray S.tT (0,0))=w1 at Jd JC IX ⊢
 refine gP h (T.zT w1) aa λa h=>wpList_nil ?_
 have hn:=bO w1 (.cells (Value.agg #[.int .i64 0,bR,.bool false,bR,bR]).cells S.tT (0,0))
 have IV:br (λ_=>False) w1 (w1.alloc (.cells (Value.agg #[.int .i64 0,bR,.bool false,bR,bR]).cells S.tT (0,0))):=br.alloc _ _ _
 generalize w1.alloc (.cells (Value.agg #[.int .i64 0,bR,.bool false,bR,bR]).cells S.tT (0,0))=w2 at hn IV ⊢
 have JA:=bB.kn IV JC
 have hk:=Jd.trans IV
 obtain⟨lb,lc,NZ,_,WL,_⟩:=h3.form
 have fin:∀ (cs':List Value) (a:Act) (l:List (Nat × Value)) (x:Operand),St 16 a l->Hd l x (.agg cs'.toArray)->l.lookup 4=some (pt w1.heap.size 0)->cs'.length=5->(∀ u∈cs',u.oneCell'=true)->TrRp w (k+1) cs' (t.at i)->∀ (ops:Array Oper) (R:Exit->Act->World->Prop),
   (∀ a' w',(a'.defers=[]/\∃ p v,a'.get 4=.pointer (some p)/\(loadVar S.tT p).run P w'=.ok v w'/\∃ cs',Ending.returned v=.returned (.agg cs'.toArray)/\TrRp w (k+1) cs' (t.at i)/\br (λ_=>False) w w')->R .normal a' w')->wpList P ops R [mk none (.store S.tT (tm 4) x)] a w2:=by
  intro cs' a l x h hx h4' hl Jv htr ops R hR
  refine ix h (.t h4') hx (by simp[Value.cells]) (by rw[hl];exact T.vT.size) hn (by simp[Value.cells,hl]) Jv (wpList_nil (hR _ _ ⟨h.defers,⟨w1.heap.size,0,none⟩,.agg cs'.toArray,h.get 4 _ h4',?_,cs',rfl,htr,?_⟩))
  ·have hr:=setRow_heap _ _ _ cs'.toArray _ _ hn
   have IS:∀ j v,cs'[j]?=some v->(w2.setRow w1.heap.size cs'.toArray).cell? ((⟨w1.heap.size,0,none⟩:Addr).add j)=some v:=λj v hj=>by
    rw[Addr.add_lit]
    simp only[World.cell?,hr,Option.isSome_none,ag,ak,aN,aQ,hj]
   have MM:=run_loadCells_list (P:=P) (w2.setRow w1.heap.size cs'.toArray) ⟨w1.heap.size,0,none⟩ cs' IS
   rw[hl]at MM
   simp[loadVar,T.vT.agg,T.vT.size,MM]
  ·exact((hk.mono (Y:=λk=>k=w1.heap.size) λ_ _ h=>h.elim).trans (br.setRow _ _ _ _ rfl)).mono λk hk hX=>by omega
 refine bI (bI (cq ?_))
 refine b9 h (.t rfl) aa λa h=>cH h (.t rfl) T.t3 aa λa h=>ce h (.t rfl) T.t3.var (JA.at (j:=3) rfl) aa λa h=>?_
 have h':=h
 rw[NZ]at h'
 refine dP h' (.t rfl) T.dTs aa λa h=>cy h rfl (.t rfl) (.t rfl) aa λa h=>wpList_nil ?_
 refine cA h rfl (λhb=>?_) (λhb=>?_)
 ·have IU:i<t.list.length:=by simp[cg]at hb;omega
  obtain⟨x,hx⟩:∃ x,t.list[i]?=some x:=⟨_,aq IU⟩
  have JD:t.at i=x:=by simp[Tr.at,List.getD,hx]
  obtain⟨b,o,c,cs',hv,M7,Pu,Rk⟩:=h3.get hx
  refine bI (cq ?_)
  refine cH h (.t rfl) T.t3 aa λa h=>ce h (.t rfl) T.t3.var (JA.at (j:=3) rfl) aa λa h=>b9 h (.t rfl) aa λa h=>?_
  rw[hv]at h
  refine fw h (sz:=5) (.t rfl) (.t rfl) IU T.dTs T.vT.size aa λa h=>?_
  refine dK h (cs:=cs') (.t rfl) (by rw[M7];exact T.vT) (bB.kn hk Pu) aa λa h=>?_
  refine fin cs' a _ _ h (.t rfl) rfl M7 Rk.one (by rw[JD];exact Rk.up aa) _ _ λa' w' hh=>.ret hh
 ·have JN:¬ i<t.list.length:=by simp[cg]at hb;omega
  have JD:t.at i=.zero:=by simp[Tr.at,List.getD,List.getElem?_eq_none (by omega:t.list.length<=i)]
  refine .skip (bI (cq ?_))
  refine kj h (qs:=#[]) (λ_ _ _=>by simp) (T.bT w2) aa λa h=>?_
  refine fin [.int .i64 0,bR,.bool false,bR,bR] a _ _ h (.t rfl) rfl rfl (by simp[Value.oneCell',bR]) (by rw[JD];exact(TrRp.zero w).up aa) _ _ λa' w' hh=>.ret hh
end
end
section
open Go
set_option maxRecDepth 4000
structure LeafC (P:Program)(S:SN):Prop where
 tab:RefT P S
 vB:cv P S.tB false 1
 uvE:Ent P S.fUv
 uvC:∀ (x:Nat) (w:World),x<18446744073709551616->Calls P S.fUv [.int .u64 (x:Int)].toArray w (de S.tU8 (uvar x) w)
 fixE:Ent P S.fFix
 fixC:∀ (x:Int) (k:Nat) (w:World),k<=8->Calls P S.fFix [.int .i64 x,.int .i64 (k:Int)].toArray w (de S.tU8 (be k x) w)
 cntE:Ent P S.fCnt
 cntC:∀ (fx null:Bool) (m k:Nat) (w:World),m<=bX->k<=8->Calls P S.fCnt [.bool fx,.bool null,.int .i64 (m:Int),.int .i64 (k:Int)].toArray w (de S.tU8 (js fx null m k) w)
 widE:Ent P S.fWid
 widC:∀ (kind:Nat) (w:World),Calls P S.fWid [.int .i64 (kind:Int)].toArray w λe w'=>e=.returned (.int .i64 (da kind:Int))/\w'=w
 whE:Ent P S.fWhole
 whC:∀ (w:World) (X:Nat->Prop) (v:Value) (bs:Bs),r4 w X v bs->Calls P S.fWhole [v].toArray w λe w'=>∃ v',e=.returned v'/\r4 w X v' (bs.take bX)/\w'=w
 thE:Ent P S.fThings
 thC:∀ (w:World) (k:Nat) (v:Value) (xs:List Tr),fi w 5 (TrRp w k) v xs->Calls P S.fThings [v].toArray w λe w'=>∃ v',e=.returned v'/\fi w 5 (TrRp w k) v' (xs.take bX)/\w'=w
 hasE:Ent P S.fHas
 hasC:∀ (kind:Nat) (lo hi nul tag df:Int) (of:Nat) (sv:Value) (ver:Int) (w:World),Calls P S.fHas [.agg (bW kind lo hi nul tag df of sv).toArray,.int .i64 ver].toArray w λe w'=>e=.returned (.bool (mb lo hi ver))/\br (λ_=>False) w w'
 nullE:Ent P S.fNull
 nullC:∀ (kind:Nat) (lo hi nul tag df:Int) (of:Nat) (sv:Value) (ver:Int) (nm:Int) (tn:Bool) (x1 x3 x4:Value) (w:World),Calls P S.fNull [.agg (bW kind lo hi nul tag df of sv).toArray,.int .i64 ver,.agg [.int .i64 nm,x1,.bool tn,x3,x4].toArray].toArray w λe w'=>e=.returned (.bool (tn&&cF nul ver))/\br (λ_=>False) w w'
 knE:Ent P S.fKnown
 knC:∀ (sf:SFs) (fv:Value) (w:World),fz sf=true->ge w sf fv->Calls P S.fKnown [fv].toArray w λe w'=>e=.returned (.int .u32 (bH sf:Int))/\br (λ_=>False) w w'
 atE:Ent P S.fAt
 atC:∀ (k i:Nat) (cs:List Value) (t:Tr) (w:World),TrRp w k cs t->Calls P S.fAt [.agg cs.toArray,.int .i64 (i:Int)].toArray w λe w'=>∃ cs',e=.returned (.agg cs'.toArray)/\TrRp w k cs' (t.at i)/\br (λ_=>False) w w'
 unE:Ent P S.fUnk
 unC:∀ (sf:SFs) (fv uv:Value) (raw:List (UInt32 × Bs)) (w:World),fz sf=true->ge w sf fv->fi w 2 (jh w) uv raw->Calls P S.fUnk [fv,uv].toArray w λe w'=>∃ v raw',e=.returned v/\fi w' 2 (jh w') v raw'/\(raw'.map λp=>(p.1.toNat,p.2))=eV (bH sf) (raw.map λp=>(p.1.toNat,p.2))/\br (λ_=>False) w w'
def r3 (P:Program)(S:SN)(sf:SFs):Prop:=∀ (w:World) (ver:Int) (fx:Bool) (k:Nat) (cs:List Value) (t:Tr) (fv:Value),ge w sf fv->TrRp w k cs t->(bU ver fx sf t).length<=fq->Calls P S.fPart [fv,.int .i64 ver,.bool fx,.agg cs.toArray].toArray w (de S.tU8 (bU ver fx sf t) w)
section
variable {P:Program} {S:SN}
theorem uq {A:Nat}{x:Int}(w:World):(binOp .and A (.int .i64 x) (.int .i64 1)).run P w=.ok (.int .i64 (x%2)) w:=by
 have e2:BitVec.ofInt 64 1=1#64:=rfl
 have h0:(BitVec.ofInt 64 x &&& 1#64).toNat=(x%2).toNat:=by
  rw[BitVec.toNat_and,BitVec.toNat_ofInt]
  have:(1#64).toNat=1:=rfl
  rw[this,Nat.and_one_is_mod]
  have h1:(0:Int)<=x%((2^64:Nat):Int):=Int.emod_nonneg _ ab
  have h2:x%((2^64:Nat):Int)%2=x%2:=Int.emod_emod_of_dvd x (by decide)
  omega
 have hw:IntKind.i64.wrap (((x%2).toNat:Nat):Int)=x%2:=by simp[IntKind.wrap,IntKind.bits,IntKind.signed];omega
 have K5:(IntKind.i64≠IntKind.i64)=False:=by simp
 have e:(BitVec.ofInt IntKind.i64.bits x &&& BitVec.ofInt IntKind.i64.bits 1).toNat=(x%2).toNat:=h0
 simp only[binOp,K5,ak,Op.intBits,e,hw,Sem.run_pure]
theorem Ah (C:LeafC P S){W:World}{w:World}{fx null:Bool}{t:Tr}{B:Nat}{sv lv uv:Value}(LT:kR W sv t.octets)(hk:dW W w)(hB:bB w B 0 [.int .i64 t.num,sv,.bool t.null,lv,uv])
  (hlim:(gm fx null 2 t.octets).length<=fq) {a:Act} (h:St 70 a [(11,pt B 0),(2,.bool null),(4,.bool fx)]) {R:Exit->Act->World->Prop} (hR:∀ a' w',(a'.defers=[]/\de S.tU8 (gm fx null 2 t.octets) W (.returned (a'.get 12)) w')->R .ret a' w') :
  cf P (.seq (rg (DR S)) (.seq (.seq (rg (AT S)) (.cond (tm 37) (rg (AS S)) .skip)) (.seq (rg (wm S)) .ret))) R a w:=by
 have T:=C.tab
 refine bI (cq (cH h (.t rfl) T.t1 aa λa h=>ce h (.t rfl) T.t1.var (hB.at (j:=1) rfl) aa λa h=>?_))
 refine cX h C.whE (vs:=[sv]) (λn a h=>by simp only[List.map_cons,List.map_nil];rw[Hd.t (l:=_) (i:=35) rfl n a h]) (C.whC w (λ_=>False) sv t.octets (LT.far hk)) aa λe w' hR1=>?_
 obtain⟨v14,rfl,Re,rfl⟩:=hR1
 refine⟨v14,rfl,λa h=>b5 h (.t rfl) aa λa h=>wpList_nil ?_⟩
 have rest:∀ (a:Act) (x:Value),St 70 a [(2,.bool null),(4,.bool fx),(14,x)]->kR w' x (gn null t.octets)->cf P (.seq (rg (wm S)) .ret) R a w':=by
  intro a x h hx
  obtain⟨bx,cx,Me,_⟩:=hx.form
  have Lq:(gn null t.octets).length<=bX:=by
   simp only[gn]
   split
   ·simp
   ·exact ii _
  refine bI (cq (b9 h (.t rfl) aa λa h=>b9 h (.t rfl) aa λa h=>b9 h (.t rfl) aa λa h=>?_))
  have h':=h
  rw[Me]at h'
  refine dP h' (.t rfl) T.oct.und aa λa h=>?_
  rw[<- Me]at h
  refine cX h C.cntE (vs:=[.bool fx,.bool null,.int .i64 ((gn null t.octets).length:Int),.int .i64 ((2:Nat):Int)]) (λn a h=>by
   simp only[List.map_cons,List.map_nil]
   rw[Hd.t (l:=_) (i:=38) rfl n a h,Hd.t (l:=_) (i:=39) rfl n a h,Hd.t (l:=_) (i:=41) rfl n a h];rfl) (C.cntC fx null _ 2 w' Lq aa) aa λe w2 Kr=>?_
  obtain⟨v42,rfl,hd,IV⟩:=Kr
  have hx2:=hx.keep IV
  refine⟨v42,rfl,λa h=>b9 h (.t rfl) aa λa h=>?_⟩
  refine j5 h T.oct (.t rfl) (.t rfl) hd (vN T.oct hx2) IV.size (by rw[<- ad];exact hlim) aa λv w3 a hg h=>?_
  refine b5 h (.t rfl) aa λa h=>wpList_nil (.ret (hR _ _ ⟨h.defers,v,by rw[h.get 12 v rfl],?_,?_⟩))
  ·exact(hg.lower (L':=W.heap.size) hk.size).dst
  ·exact dW.keeps ((hk.kn IV).up hg.keeps λi hi=>by have:=(hd.own hi).1;have:=hk.size;omega)
 refine bI (bI (cq (b9 h (.t rfl) aa λa h=>wpList_nil ?_)))
 cases null with
 | true=>
  refine cA h rfl (λ_=>?_) (λhb=>by cases hb)
  refine cq (b5 h .c aa λa h=>wpList_nil ?_)
  exact rest a bR (h.pick ⟨rfl,rfl,rfl,trivial⟩) (.inl ⟨none,rfl,rfl⟩)
 | false=>
  refine cA h rfl (λhb=>by cases hb) (λ_=>?_)
  exact .skip (rest a v14 (h.pick ⟨rfl,rfl,rfl,trivial⟩) Re)
theorem Ag (C:LeafC P S){W:World}{w:World}{fx null:Bool}{t:Tr}{B:Nat}{sv lv uv:Value}(LT:kR W sv t.octets)(hk:dW W w)(hB:bB w B 0 [.int .i64 t.num,sv,.bool t.null,lv,uv])
  (hlim:(gm fx null 4 t.octets).length<=fq) {a:Act} (h:St 70 a [(11,pt B 0),(2,.bool null),(4,.bool fx)]) {R:Exit->Act->World->Prop} (hR:∀ a' w',(a'.defers=[]/\de S.tU8 (gm fx null 4 t.octets) W (.returned (a'.get 12)) w')->R .ret a' w') :
  cf P (.seq (rg (AR S)) (.seq (.seq (rg (AQ S)) (.cond (tm 50) (rg (AP S)) .skip)) (.seq (rg (wl S)) .ret))) R a w:=by
 have T:=C.tab
 refine bI (cq (cH h (.t rfl) T.t1 aa λa h=>ce h (.t rfl) T.t1.var (hB.at (j:=1) rfl) aa λa h=>?_))
 refine cX h C.whE (vs:=[sv]) (λn a h=>by simp only[List.map_cons,List.map_nil];rw[Hd.t (l:=_) (i:=48) rfl n a h]) (C.whC w (λ_=>False) sv t.octets (LT.far hk)) aa λe w' hR1=>?_
 obtain⟨v14,rfl,Re,rfl⟩:=hR1
 refine⟨v14,rfl,λa h=>b5 h (.t rfl) aa λa h=>wpList_nil ?_⟩
 have rest:∀ (a:Act) (x:Value),St 70 a [(2,.bool null),(4,.bool fx),(15,x)]->kR w' x (gn null t.octets)->cf P (.seq (rg (wl S)) .ret) R a w':=by
  intro a x h hx
  obtain⟨bx,cx,Me,_⟩:=hx.form
  have Lq:(gn null t.octets).length<=bX:=by
   simp only[gn]
   split
   ·simp
   ·exact ii _
  refine bI (cq (b9 h (.t rfl) aa λa h=>b9 h (.t rfl) aa λa h=>b9 h (.t rfl) aa λa h=>?_))
  have h':=h
  rw[Me]at h'
  refine dP h' (.t rfl) T.oct.und aa λa h=>?_
  rw[<- Me]at h
  refine cX h C.cntE (vs:=[.bool fx,.bool null,.int .i64 ((gn null t.octets).length:Int),.int .i64 ((4:Nat):Int)]) (λn a h=>by
   simp only[List.map_cons,List.map_nil]
   rw[Hd.t (l:=_) (i:=51) rfl n a h,Hd.t (l:=_) (i:=52) rfl n a h,Hd.t (l:=_) (i:=54) rfl n a h];rfl) (C.cntC fx null _ 4 w' Lq aa) aa λe w2 Kr=>?_
  obtain⟨v42,rfl,hd,IV⟩:=Kr
  have hx2:=hx.keep IV
  refine⟨v42,rfl,λa h=>b9 h (.t rfl) aa λa h=>?_⟩
  refine j5 h T.oct (.t rfl) (.t rfl) hd (vN T.oct hx2) IV.size (by rw[<- ad];exact hlim) aa λv w3 a hg h=>?_
  refine b5 h (.t rfl) aa λa h=>wpList_nil (.ret (hR _ _ ⟨h.defers,v,by rw[h.get 12 v rfl],?_,?_⟩))
  ·exact(hg.lower (L':=W.heap.size) hk.size).dst
  ·exact dW.keeps ((hk.kn IV).up hg.keeps λi hi=>by have:=(hd.own hi).1;have:=hk.size;omega)
 refine bI (bI (cq (b9 h (.t rfl) aa λa h=>wpList_nil ?_)))
 cases null with
 | true=>
  refine cA h rfl (λ_=>?_) (λhb=>by cases hb)
  refine cq (b5 h .c aa λa h=>wpList_nil ?_)
  exact rest a bR (h.pick ⟨rfl,rfl,rfl,trivial⟩) (.inl ⟨none,rfl,rfl⟩)
 | false=>
  refine cA h rfl (λhb=>by cases hb) (λ_=>?_)
  exact .skip (rest a v14 (h.pick ⟨rfl,rfl,rfl,trivial⟩) Re)
end
end
