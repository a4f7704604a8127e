/-
  PLAIN LAWS AND CONTRACTS of messages, part 13.
-/
import Derived.Test.YtpoeajgpacfpoaaGreatDoorK2
import Derived.Test.YtpoeajgpacfpoaaGreatDoorK11
import Derived.KernelRfl

namespace Go.Proofs.YtpoeajgpacfpoaaGreatDoor.Kx
open Go
def HL (P:Program)(t:Nat):Bool:=match P.info? t with
 | some i=>(match i.zero with|some (.int .u8 0)=>true|_=>false)&&i.size==1&&i.bytes==1
 | none=>false
theorem z8_ok {P:Program}{t:Nat}(h:HL P t=true):∃ i,P.info? t=some i/\i.zero=some (.int .u8 0)/\i.size=1/\i.bytes=1:=by
 unfold HL at h
 split at h
 ·rename_i i hi
  simp only[Bool.and_eq_true,beq_iff_eq]at h
  refine⟨i,hi,?_,h.1.2,h.2⟩
  have h1:=h.1.1
  split at h1
  ·assumption
  ·cases h1
 ·cases h
def HM (P:Program)(t:Nat):Bool:=match P.info? t with
 | some i=>(match i.zero with|some (.agg ⟨[.int .u32 0,.slice none 0 0]⟩)=>true|_=>false)&&i.size==2&&i.bytes==32
 | none=>false
theorem iG_ok {P:Program}{t:Nat}(h:HM P t=true):∃ i,P.info? t=some i/\i.zero=some (.agg #[.int .u32 0,aF])/\i.size=2/\i.bytes=32:=by
 unfold HM at h
 split at h
 ·rename_i i hi
  simp only[Bool.and_eq_true,beq_iff_eq]at h
  refine⟨i,hi,?_,h.1.2,h.2⟩
  have h1:=h.1.1
  split at h1
  ·assumption
  ·cases h1
 ·cases h
structure RefT (P:Program)(S:SN):Prop where
 mixed:P.follows .mixedOrders=true
 dInt:P.underlying S.tInt=some (.int .i64)
 dI64:P.underlying S.tI64=some (.int .i64)
 dU8:P.underlying S.tU8=some (.int .u8)
 dU32:P.underlying S.tU32=some (.int .u32)
 dU64:P.underlying S.tU64=some (.int .u64)
 oct:OctT P S.tSl S.tU8
 dTs:P.underlying S.tTs=some (.slice S.tT)
 dGs:P.underlying S.tGs=some (.slice S.tG)
 dFs:P.underlying S.tFs=some (.slice S.tF)
 vI64:bc P S.tI64 false 1
 vU8:bc P S.tU8 false 1
 vT:bc P S.tT true 5
 vF:bc P S.tF true 8
 vG:bc P S.tG true 2
 vM:bc P S.tMs true 2
 t0:bw P S.tT 0 S.tI64 0 false 1
 t1:bw P S.tT 1 S.tSl 1 false 1
 t2:bw P S.tT 2 S.tB 2 false 1
 t3:bw P S.tT 3 S.tTs 3 false 1
 t4:bw P S.tT 4 S.tGs 4 false 1
 f0:bw P S.tF 0 S.tInt 0 false 1
 f1:bw P S.tF 1 S.tInt 1 false 1
 f2:bw P S.tF 2 S.tInt 2 false 1
 f3:bw P S.tF 3 S.tInt 3 false 1
 f4:bw P S.tF 4 S.tInt 4 false 1
 f5:bw P S.tF 5 S.tI64 5 false 1
 f6:bw P S.tF 6 S.tInt 6 false 1
 f7:bw P S.tF 7 S.tFs 7 false 1
 g0:bw P S.tG 0 S.tU32 0 false 1
 g1:bw P S.tG 1 S.tSl 1 false 1
 m0:bw P S.tMs 0 S.tFs 0 false 1
 m1:bw P S.tMs 1 S.tInt 1 false 1
 zT:∀ w,(zeroValue S.tT).run P w=.ok (.agg #[.int .i64 0,aF,.bool false,aF,aF]) w
 zF:∀ w,(zeroValue S.tF).run P w=.ok (.agg #[.int .i64 0,.int .i64 0,.int .i64 0,.int .i64 0,.int .i64 0,.int .i64 0,.int .i64 0,aF]) w
 zG:∀ w,(zeroValue S.tG).run P w=.ok (.agg #[.int .u32 0,aF]) w
 zM:∀ w,(zeroValue S.tMs).run P w=.ok (.agg #[aF,.int .i64 0]) w
 z8:∃ i,P.info? S.tU8=some i/\i.zero=some (.int .u8 0)/\i.size=1/\i.bytes=1
 bT:∀ w,(Instr.build S.tT #[]).run P w=.ok (.agg #[.int .i64 0,aF,.bool false,aF,aF]) w
 bG:∀ w,(Instr.build S.tG #[]).run P w=.ok (.agg #[.int .u32 0,aF]) w
 bSG:∀ w,(Instr.buildSlice S.tGs 1 #[(0,.agg #[.int .u32 0,aF])]).run P w=.ok (.slice (some ⟨w.heap.size,0,none⟩) 1 1) (w.alloc (.cells #[.int .u32 0,aF] S.tG (0,0)))
 iG:∃ i,P.info? S.tG=some i/\i.zero=some (.agg #[.int .u32 0,aF])/\i.size=2/\i.bytes=32
def cz (w0 w:World):Prop:=ac (fun k=>w0.heap.size<=k) w0 w
theorem cz.refl (w:World):cz w w:=ac.refl _ _
theorem cz.kn {w0 w w':World}(h:cz w0 w)(k:ac (fun _=>False) w w'):cz w0 w':=ac.trans h (k.mono fun _ _ h=>h.elim)
theorem cz.up {w0 w w':World}{X:Nat->Prop}(h:cz w0 w)(k:ac X w w')(hX:∀ i,X i->w0.heap.size<=i):cz w0 w':=ac.trans h (k.mono fun i _ hx=>hX i hx)
theorem cz.cell {w0 w:World}(h:cz w0 w){b o:Nat}{v:Value}(hv:w0.cell? ⟨b,o,none⟩=some v):w.cell? ⟨b,o,none⟩=some v:=
 ac.cell h (by have:=bP hv;omega) hv
theorem cz.cells {w0 w:World}(h:cz w0 w){b o:Nat}{cs:List Value}(hv:au w0 b o cs):au w b o cs:=fun j c hj=>h.cell (hv j c hj)
theorem cz.keeps {w0 w:World}(h:cz w0 w):ac (fun _=>False) w0 w:=ac.mono h fun k hk hX=>by omega
theorem cz.of {w0 w:World}(h:ac (fun _=>False) w0 w):cz w0 w:=h.mono fun _ _ h=>h.elim
theorem au.kn {w w':World}(k:ac (fun _=>False) w w'){b o:Nat}{cs:List Value}(hv:au w b o cs):au w' b o cs:=fun j c hj=>k.cell id (hv j c hj)
def dh {α:Type}(w:World)(sz:Nat)(El:List Value->α->Prop)(v:Value)(xs:List α):Prop:=
 (∃ base,v=.slice base 0 0/\xs=[]) \/ ∃ b o c,v=.slice (some ⟨b,o,none⟩) xs.length c/\xs.length<=c/\c<=maxLen/\∀ i x,xs[i]?=some x->∃ cs,cs.length=sz/\au w b (o+i*sz) cs/\El cs x
def qx (w:World)(X:Nat->Prop)(v:Value)(l:Bs):Prop:=(∃ base,v=.slice base 0 0/\l=[]) \/ ci w X v l
abbrev kD (w:World) (v:Value) (l:Bs):Prop:=qx w (fun _=>False) v l
def gk (w:World)(cs:List Value)(p:UInt32 × Bs):Prop:=∃ v,cs=[.int .u32 (p.1.toNat:Int),v]/\kD w v p.2
def Tr.raw:Tr->List (UInt32 × Bs)|.mk _ _ _ _ u=>u
def TrRp (w:World):Nat->List Value->Tr->Prop
 | 0,_,_=>False
 | k+1,cs,t=>∃ sv lv uv,cs=[.int .i64 t.num,sv,.bool t.null,lv,uv]/\kD w sv t.octets/\dh w 5 (TrRp w k) lv t.list/\dh w 2 (gk w) uv t.raw
theorem dh.form {α:Type}{w:World}{sz:Nat}{El:List Value->α->Prop}{v:Value}{xs:List α}(h:dh w sz El v xs):∃ base c,v=.slice base xs.length c/\xs.length<=c/\xs.length<=maxLen/\(xs=[] \/ ∃ b o,base=some ⟨b,o,none⟩/\∀ i x,xs[i]?=some x->∃ cs,cs.length=sz/\au w b (o+i*sz) cs/\El cs x):=by
 rcases h with⟨base,rfl,rfl⟩|⟨b,o,c,rfl,h1,h2,h3⟩
 ·exact⟨base,0,rfl,Nat.le_refl _,by simp[maxLen],.inl rfl⟩
 ·exact⟨_,c,rfl,h1,by omega,.inr ⟨b,o,rfl,h3⟩⟩
theorem dh.imp {α:Type}{w w':World}{sz:Nat}{El El':List Value->α->Prop}{v:Value}{xs:List α}(h:dh w sz El v xs)(hc:∀ b o cs,au w b o cs->au w' b o cs)(he:∀ cs x,El cs x->El' cs x):dh w' sz El' v xs:=by
 rcases h with h|⟨b,o,c,h1,h2,h3,h4⟩
 ·exact .inl h
 ·exact .inr ⟨b,o,c,h1,h2,h3,fun i x hx=>by obtain⟨cs,a1,a2,a3⟩:=h4 i x hx;exact⟨cs,a1,hc _ _ _ a2,he _ _ a3⟩⟩
theorem ci.far {w0 w:World}(h:cz w0 w){v:Value}{l:Bs}(hs:ci w0 (fun _=>False) v l):ci w (fun _=>False) v l:=
 ci.mono ((hs.mono (Y:=fun k=>w0.heap.size<=k) fun k hk hX=>by omega).keep h) fun _ _ h=>h.elim
theorem qx.form {w:World}{X:Nat->Prop}{v:Value}{l:Bs}(h:qx w X v l):∃ base c,v=.slice base l.length c/\(l=[] \/ ∃ b o,base=some ⟨b,o,none⟩/\ez w b o l):=by
 rcases h with⟨base,rfl,rfl⟩|h
 ·exact⟨base,0,rfl,.inl rfl⟩
 ·exact h.form
theorem qx.keep {w w':World}{X:Nat->Prop}{v:Value}{l:Bs}(h:qx w X v l)(hk:ac X w w'):qx w' X v l:=h.imp id fun h=>h.keep hk
theorem qx.mono {w:World}{X Y:Nat->Prop}{v:Value}{l:Bs}(h:qx w X v l)(hy:∀ k,k<w.heap.size->Y k->X k):qx w Y v l:=h.imp id fun h=>h.mono hy
theorem qx.far {w0 w:World}{v:Value}{l:Bs}(hs:kD w0 v l)(h:cz w0 w):kD w v l:=hs.imp id fun hs=>hs.far h
theorem gk.far {w0 w:World}(h:cz w0 w){cs:List Value}{p:UInt32 × Bs}(hs:gk w0 cs p):gk w cs p:=by
 obtain⟨v,h1,h2⟩:=hs
 exact⟨v,h1,h2.far h⟩
theorem TrRp.far {w0 w:World}(h:cz w0 w):∀ {k:Nat} {cs:List Value} {t:Tr},TrRp w0 k cs t->TrRp w k cs t
 | 0,_,_,hs=>hs.elim
 | _+1,_,_,hs=>by
  obtain⟨sv,lv,uv,h1,h2,h3,h4⟩:=hs
  exact⟨sv,lv,uv,h1,h2.far h,h3.imp (fun _ _ _=>h.cells) (fun _ _ h5=>TrRp.far h h5),h4.imp (fun _ _ _=>h.cells) (fun _ _ h5=>h5.far h)⟩
theorem TrRp.up {w:World}:∀ {k m:Nat} {cs:List Value} {t:Tr},k<=m->TrRp w k cs t->TrRp w m cs t
 | 0,_,_,_,_,hs=>hs.elim
 | _+1,0,_,_,hm,_=>by omega
 | k+1,m+1,_,_,hm,hs=>by
  obtain⟨sv,lv,uv,h1,h2,h3,h4⟩:=hs
  exact⟨sv,lv,uv,h1,h2,h3.imp (fun _ _ _ h=>h) (fun _ _ h5=>TrRp.up (by omega) h5),h4⟩
theorem TrRp.len {w:World}:∀ {k:Nat} {cs:List Value} {t:Tr},TrRp w k cs t->cs.length=5
 | 0,_,_,hs=>hs.elim
 | _+1,_,_,hs=>by obtain⟨sv,lv,uv,rfl,_⟩:=hs;rfl
theorem TrRp.zero (w:World):TrRp w 1 [.int .i64 0,aF,.bool false,aF,aF] .zero:=
 ⟨aF,aF,aF,rfl,.inl ⟨none,rfl,rfl⟩,.inl ⟨none,rfl,rfl⟩,.inl ⟨none,rfl,rfl⟩⟩
def SFs.len:SFs->Nat
 | .nil=>0
 | .cons _ _ _ _ _ _ _ _ r=>r.len+1
def jh (w:World):SFs->Nat->Nat->Prop
 | .nil,_,_=>True
 | .cons kind lo hi nul tag df of sub r,b,o=>
  (∃ sv,au w b o [.int .i64 (kind:Int),.int .i64 lo,.int .i64 hi,.int .i64 nul,.int .i64 tag,.int .i64 df,.int .i64 (of:Int),sv] /\
   ((sub=.nil/\sv=aF) \/ ∃ b' o' c',sv=.slice (some ⟨b',o',none⟩) sub.len c'/\sub.len<=maxLen/\jh w sub b' o'))/\jh w r b (o+8)
def fu (w:World)(sf:SFs)(v:Value):Prop:=(sf=.nil/\v=aF) \/ ∃ b o c,v=.slice (some ⟨b,o,none⟩) sf.len c/\sf.len<=maxLen/\jh w sf b o
theorem jh.imp {w w':World}(hc:∀ b o cs,cs.length=8->au w b o cs->au w' b o cs):∀ (sf:SFs) (b o:Nat),jh w sf b o->jh w' sf b o
 | .nil,_,_,_=>trivial
 | .cons kind lo hi nul tag df of sub r,b,o,h=>by
  obtain⟨⟨sv,h1,h2⟩,h3⟩:=h
  refine⟨⟨sv,hc _ _ _ rfl h1,?_⟩,jh.imp hc r b _ h3⟩
  rcases h2 with h2|⟨b',o',c',a1,a2,a3⟩
  ·exact .inl h2
  ·exact .inr ⟨b',o',c',a1,a2,jh.imp hc sub b' o' a3⟩
theorem fu.far {w0 w:World}(h:cz w0 w){sf:SFs}{v:Value}(hs:fu w0 sf v):fu w sf v:=by
 rcases hs with hs|⟨b,o,c,a1,a2,a3⟩
 ·exact .inl hs
 ·exact .inr ⟨b,o,c,a1,a2,a3.imp (fun _ _ _ _=>h.cells) sf b o⟩
theorem fu.form {w:World}{sf:SFs}{v:Value}(h:fu w sf v):∃ base c,v=.slice base sf.len c/\sf.len<=maxLen/\(sf=.nil \/ ∃ b o,base=some ⟨b,o,none⟩/\jh w sf b o):=by
 rcases h with⟨rfl,rfl⟩|⟨b,o,c,rfl,h1,h2⟩
 ·exact⟨none,0,rfl,by simp[SFs.len,maxLen],.inl rfl⟩
 ·exact⟨_,c,rfl,h1,.inr ⟨b,o,rfl,h2⟩⟩
def aV (kind:Nat)(lo hi nul tag df:Int)(of:Nat)(sv:Value):List Value:=[.int .i64 (kind:Int),.int .i64 lo,.int .i64 hi,.int .i64 nul,.int .i64 tag,.int .i64 df,.int .i64 (of:Int),sv]
section
variable {P:Program} {S:SN}
theorem ig (ot:OctT P S.tSl S.tU8){w:World}{L:Nat}{v:Value}{bs:Bs}(h:aA w L S.tU8 v bs):Src P 1 S.tSl v bs.length (bs.map aJ) w:=by
 rcases h with⟨rfl,rfl⟩|⟨g,c,cur,rfl,_,hg,_,_,_,IP⟩
 ·exact Src.ofNil w ot.und 0
 ·refine Src.ofSlice w ot.und ⟨g,0,none⟩ _ c _ (by simp) (fun j u hj=>?_) (fun u hu=>?_)
  ·simp only[List.getElem?_map,Option.map_eq_some_iff]at hj
   obtain⟨x,hx,rfl⟩:=hj
   rw[Addr.add_lit]
   simp[World.cell?,hg,IP j x hx]
  ·simp only[List.mem_map]at hu
   obtain⟨x,_,rfl⟩:=hu
   rfl
theorem xo (ot:OctT P S.tSl S.tU8){w:World}{X:Nat->Prop}{v:Value}{bs:Bs}(h:ci w X v bs):Src P 1 S.tSl v bs.length (bs.map aJ) w:=by
 rcases h with⟨rfl,rfl⟩|⟨b,o,c,rfl,_,_,_,_,IP⟩
 ·exact Src.ofNil w ot.und 0
 ·refine Src.ofSlice w ot.und ⟨b,o,none⟩ _ c _ (by simp) (fun j u hj=>?_) (fun u hu=>?_)
  ·simp only[List.getElem?_map,Option.map_eq_some_iff]at hj
   obtain⟨x,hx,rfl⟩:=hj
   rw[Addr.add_lit]
   exact IP j x hx
  ·simp only[List.mem_map]at hu
   obtain⟨x,_,rfl⟩:=hu
   rfl
theorem sh (ot:OctT P S.tSl S.tU8){w:World}{X:Nat->Prop}{v:Value}{bs:Bs}(h:qx w X v bs):Src P 1 S.tSl v bs.length (bs.map aJ) w:=by
 rcases h with⟨base,rfl,rfl⟩|h
 ·cases base with
  | none=>exact Src.ofNil w ot.und 0
  | some a=>exact Src.ofSlice w ot.und a _ 0 _ (by simp) (fun j u hj=>by simp at hj) (fun u hu=>by simp at hu)
 ·exact xo ot h
variable {ops:Array Oper} {Q:Exit->Act->World->Prop} {r:List Oper} {n:Nat} {a:Act} {w:World} {l:List (Nat × Value)}
theorem iX (h:St n a l)(ot:OctT P S.tSl S.tU8){d L:Nat}{x y:Operand}{dv sv:Value}{bs ss:Bs}(hx:Hd l x dv)(hy:Hd l y sv)(hd:aA w L S.tU8 dv bs)(hs:Src P 1 S.tSl sv ss.length (ss.map aJ) w)(hL:L<=w.heap.size)(hlim:bs.length+ss.length<=di)(NR:d<n)
  (c:∀ v w' a',Gr L S.tU8 dv w v (bs++ss) w'->St n a' ((d,v)::l)->wpList P ops Q r a' w'):wpList P ops Q (bi (some d) .append [x,y] [S.tSl,S.tSl] S.tSl::r) a w:=by
 obtain⟨v,w',Im,hg⟩:=fh (tx:=S.tSl) (ty:=S.tSl) ot hd hs hL hlim
 have hw:Region.wanted (bi (some d) .append [x,y] [S.tSl,S.tSl] S.tSl) (yielded ops a.tmps)=true:=by simp[Region.wanted,bi]
 unfold wpList
 rw[if_pos hw]
 refine .inl ?_
 unfold Oper.wp
 have:(execOp a.eval (bi (some d) .append [x,y] [S.tSl,S.tSl] S.tSl)).run P w=.ok (.value v) w':=by
  simp[execOp,bi,resolve,invoke,builtin,hx n a h,hy n a h,Im]
 rw[this]
 exact c v w' _ hg (h.put v NR)
theorem kZ (h:St n a l)(ot:OctT P S.tSl S.tU8){d:Nat}{x:Operand}{b:UInt8}(hx:Hd l x (aJ b))(NR:d<n)
  (c:∀ v a',aA (w.alloc (.cells #[aJ b] S.tU8 (0,0))) w.heap.size S.tU8 v [b]->St n a' ((d,v)::l)->wpList P ops Q r a' (w.alloc (.cells #[aJ b] S.tU8 (0,0)))):wpList P ops Q (mk (some d) (.buildSlice S.tSl 1 #[(0,x)])::r) a w:=by
 refine dK (l:=[b]) (ps:=[(0,x)]) ot (by simp[hx n a h,rK]) (by simp) (by simp) ?_
 refine c _ _ ?_ (h.put _ NR)
 exact .inr ⟨w.heap.size,1,#[aJ b],rfl,Nat.le_refl _,Go.heap_alloc_new w _,by simp,by simp[maxLen],by simp,fun i x hx=>by
  cases i with
  | zero=>simp at hx;subst hx;rfl
  | succ i=>simp at hx⟩
variable {I:World->Prop} {K:Act->Prop}
theorem dz (h:St n a l){d:Nat}{x:Operand}{v:Value}(hx:Hd l x v)(hd:d<n)(c:∀ a',St n a' ((d,v)::l)->eT P I r a' K):eT P I (mk (some d) (.move x)::r) a K:=
 fq (c _ (by rw[hx n a h];exact h.put v hd))
theorem lP (h:St n a l){d:Nat}{x:Operand}{T k F B O off sz:Nat}{agg:Bool}(hx:Hd l x (pt B O))(hF:bw P T k F off agg sz)(hd:d<n)(c:∀ a',St n a' ((d,pt B (O+off))::l)->eT P I r a' K) :
  eT P I (mk (some d) (.fieldAddr T x k)::r) a K:=tl (hx n a h) hF (c _ (h.put _ hd))
theorem iF (h:St n a l){d:Nat}{x:Operand}{F B O sz:Nat}{v:Value}(hx:Hd l x (pt B O))(hF:bc P F false sz)(hv:∀ w,I w->w.cell? ⟨B,O,none⟩=some v)(hd:d<n)(c:∀ a',St n a' ((d,v)::l)->eT P I r a' K) :
  eT P I (mk (some d) (.load F x)::r) a K:=eL (hx n a h) (fun w=>hF.agg w) hv (c _ (h.put _ hd))
theorem jz (h:St n a l){d:Nat}{x:Operand}{F B O:Nat}{cs:List Value}(hx:Hd l x (pt B O))(hF:bc P F true cs.length)(hv:∀ w,I w->au w B O cs)(hd:d<n)(c:∀ a',St n a' ((d,.agg cs.toArray)::l)->eT P I r a' K) :
  eT P I (mk (some d) (.load F x)::r) a K:=by
 refine⟨.agg cs.toArray,fun w hI=>?_,c _ (h.put _ hd)⟩
 have hl:=run_loadCells_list (P:=P) w ⟨B,O,none⟩ cs (fun j v hj=>by rw[Addr.add_lit];exact hv w hI j v hj)
 have e:=hx n a h
 simp only[pt]at e
 simp[execOp,mk,e,Instr.loadAt,Instr.sureAddr,loadVar,hF.agg w,hF.size w,hl]
theorem xw (h:St n a l){d:Nat}{x y:Operand}{F E b o m c i sz:Nat}{k:IntKind}(hx:Hd l x (.slice (some ⟨b,o,none⟩) m c))(hy:Hd l y (.int k (i:Nat)))(hi:i<m)(hF:P.underlying F=some (.slice E))(hs:∀ w,(sizeOf E).run P w=.ok sz w)(hd:d<n)
  (q:∀ a',St n a' ((d,pt b (o+i*sz))::l)->eT P I r a' K):eT P I (mk (some d) (.indexAddr F x y)::r) a K:=gQ (hx n a h) (hy n a h) hi hF hs (q _ (h.put _ hd))
theorem n9 (h:K a):eT P I [] a K:=h
theorem ku (hI:I w)(h:Q .normal a w):eg P I Q [] a w:=⟨hI,h⟩
theorem f9 (h:St n a l)(hI:I w){d:Nat}{x:Operand}{v:Value}(hx:Hd l x v)(hd:d<n)(c:∀ a',St n a' ((d,v)::l)->eg P I Q r a' w):eg P I Q (mk (some d) (.assign x)::r) a w:=by
 refine⟨hI,?_⟩
 show(mk (some d) (.assign x)).wp P a w (eg P I Q r) _
 unfold Oper.wp
 have:(execOp a.eval (mk (some d) (.assign x))).run P w=.ok (.value v) w:=by
  simp[execOp,mk,hx n a h]
 rw[this]
 exact c _ (h.put v hd)
theorem fJ (h:St n a l)(hI:I w){d f:Nat}{args:List Operand}{vs:List Value}{R:Ending->World->Prop}(hf:Ent P f)(IH:∀ (n:Nat) (a:Act),St n a l->args.map a.eval=vs)(hc:Calls P f vs.toArray w R)(hd:d<n)
  (c:∀ e w',R e w'->∃ v,e=.returned v/\∀ a',St n a' ((d,v)::l)->eg P I Q r a' w'):eg P I Q (cl (some d) f args::r) a w:=by
 refine⟨hI,?_⟩
 unfold Oper.wp
 have:(execOp a.eval (cl (some d) f args)).run P w=.ok (.enter f vs.toArray) w:=by
  have he:a.eval (.func f)=.func (.func f) #[] #[]:=rfl
  have ha:=IH n a h
  have Wm:(args.map a.eval).toArray=vs.toArray:=by rw[ha]
  simp only[cl,execOp,mk,resolve,he,Deferred.ofValue,invoke,Sem.run_bind,Sem.run_pure,Result.andThen_ok,Array.empty_append,Array.append_empty,List.map_toArray,Wm]
  exact hf _ _
 rw[this]
 exact hc.mono fun e w' hR=>by
  obtain⟨v,rfl,hk⟩:=c e w' hR
  exact hk _ (h.put _ hd)
theorem si (h:St n a l)(hI:I w)(ot:OctT P S.tSl S.tU8){d L:Nat}{x y:Operand}{dv sv:Value}{bs ss:Bs}(hx:Hd l x dv)(hy:Hd l y sv)(hd:aA w L S.tU8 dv bs)(hs:Src P 1 S.tSl sv ss.length (ss.map aJ) w)(hL:L<=w.heap.size)(hlim:bs.length+ss.length<=di)(NR:d<n)
  (c:∀ v w' a',Gr L S.tU8 dv w v (bs++ss) w'->St n a' ((d,v)::l)->eg P I Q r a' w'):eg P I Q (bi (some d) .append [x,y] [S.tSl,S.tSl] S.tSl::r) a w:=by
 obtain⟨v,w',Im,hg⟩:=fh (tx:=S.tSl) (ty:=S.tSl) ot hd hs hL hlim
 refine⟨hI,?_⟩
 unfold Oper.wp
 have:(execOp a.eval (bi (some d) .append [x,y] [S.tSl,S.tSl] S.tSl)).run P w=.ok (.value v) w':=by
  simp[execOp,bi,resolve,invoke,builtin,hx n a h,hy n a h,Im]
 rw[this]
 exact c v w' _ hg (h.put v NR)
theorem vI {l':List Oper}{R:Exit->Act->World->Prop}(loud:List Bool)(I:World->Prop)(hl:dq l'=loud)(h:eT P I (cR l' loud) a (fun af=>eg P I R (bZ l' loud) af w.drew)):aK P (.region 1 l'.toArray true) R a w:=.drw I (by rw[hl];exact h)
end
section
open Go
set_option maxRecDepth 4000
def yC:Nat->List Value->List (Nat × Value)
 | _,[]=>[]
 | i,v::r=>(i,v)::yC (i+1) r
theorem jG:∀ (l:List Value) (i j:Nat) (v:Value),(yC i l).lookup j=some v->i<=j/\l[j-i]?=some v
 | [],_,_,_,h=>by cases h
 | x::r,i,j,v,h=>by
  simp only[yC,List.lookup_cons]at h
  by_cases hj:j=i
  ·subst hj
   simp only[beq_self_eq_true]at h
   exact⟨Nat.le_refl _,by simpa using h⟩
  ·have:(j==i)=false:=by simp[hj]
   rw[this]at h
   obtain⟨h1,h2⟩:=jG r (i+1) j v h
   refine⟨by omega,?_⟩
   rw[show j-i=(j-(i+1))+1 by omega]
   simpa using h2
section
variable {P:Program} {S:SN}
theorem bJ (hm:P.follows .mixedOrders=true){f ntmps:Nat}{res:List Nat}{c:Code}{w:World}{RR:Ending->World->Prop}(hfn:FnIs P f ntmps res c)(hl:res.length<=2)(args:List Value)(Iv:args.length<=ntmps)
  (h:∀ a,St ntmps a (yC 0 args)->aK P c (Rt (fun a' w'=>a'.defers=[]/\RR (.returned (bj res a')) w') (fun a' w'=>a'.defers=[]/\RR (.returned (bj res a')) w')) a w):Calls P f args.toArray w RR:=
 eB hm hfn hl args Iv fun a harg hs hd=>h a ⟨hs,hd,fun i v hi=>by
  obtain⟨_,h2⟩:=jG args 0 i v hi
  exact harg i v (by simpa using h2)⟩
theorem dN {n t:Nat}{a:Act}{w:World}{l:List (Nat × Value)}{v:Value}{RR:Ending->World->Prop}(h:St n a l)(hv:l.lookup t=some v)(hR:RR (.returned v) w):a.defers=[]/\RR (.returned (bj [t] a)) w:=
 ⟨h.defers,by rw[dp,h.get t v hv];exact hR⟩
theorem uO (T:RefT P S)(hfn:FnIs P S.fWid 11 [2] (csWd S))(kind:Nat)(w:World):Calls P S.fWid [.int .i64 (kind:Int)].toArray w fun e w'=>e=.returned (.int .i64 (cH kind:Int))/\w'=w:=by
 refine bJ T.mixed hfn (by simp) _ (by simp) fun a h=>?_
 unfold csWd
 refine aw (aP (ae h .i (by omega) fun a h=>wpList_nil ?_))
 refine aw (aw (aP (ai h (.t rfl) (by omega) fun a h=>wpList_nil ?_)))
 refine .block (aw (aP (br h rfl (.t rfl) .i (by omega) fun a h=>ae h (.t rfl) (by omega) fun a h=>wpList_nil ?_)))
 refine bn h rfl (fun hb=>?_) (fun hb=>?_)
 ·refine aw (aP (ae h .i (by omega) fun a h=>wpList_nil (.ret ?_)))
  have hk:kind=1:=by simp[aW]at hb;omega
  refine dN (RR:=fun e w'=>e=.returned (.int .i64 (cH kind:Int))/\w'=w) h rfl ⟨?_,rfl⟩
  simp[cH,hk]
 have h1:kind≠1:=by simp[aW]at hb;omega
 have rest:∀ (b:Bool) (a:Act) (l:List (Nat × Value)),St 11 a l->l.lookup 3=some (.int .i64 (kind:Int))->l.lookup 6=some (.bool b)->b=decide (kind=2 \/ kind=5) ->
   aK P (.cond (tm 6) (.seq (rg (AX S)) .ret) (.seq (rg (AW S)) (.cond (tm 9) (.seq (rg (AV S)) .ret) .skip))) (Exit.inBlock 0 (Exit.then (aK P (.seq (rg (AU S)) .ret) (Rt (fun a' w'=>a'.defers=[]/\Ending.returned (bj [2] a')=.returned (.int .i64 (cH kind:Int))/\w'=w) (fun a' w'=>a'.defers=[]/\Ending.returned (bj [2] a')=.returned (.int .i64 (cH kind:Int))/\w'=w))) (Rt (fun a' w'=>a'.defers=[]/\Ending.returned (bj [2] a')=.returned (.int .i64 (cH kind:Int))/\w'=w) (fun a' w'=>a'.defers=[]/\Ending.returned (bj [2] a')=.returned (.int .i64 (cH kind:Int))/\w'=w)))) a w:=by
  intro b a l h h3 h6 TR
  refine bn h h6 (fun hb=>?_) (fun hb=>?_)
  ·refine aw (aP (ae h .i (by omega) fun a h=>wpList_nil (.ret ?_)))
   refine dN (RR:=fun e w'=>e=.returned (.int .i64 (cH kind:Int))/\w'=w) h rfl ⟨?_,rfl⟩
   rw[hb]at TR
   have hk:kind=2 \/ kind=5:=by simpa using TR.symm
   simp[cH,h1,hk]
  ·rw[hb]at TR
   have hk:¬ (kind=2 \/ kind=5):=by simpa using TR.symm
   refine aw (aP (br h rfl (.t h3) .i (by omega) fun a h=>ae h (.t rfl) (by omega) fun a h=>wpList_nil ?_))
   refine bn h rfl (fun hb=>?_) (fun hb=>?_)
   ·refine aw (aP (ae h .i (by omega) fun a h=>wpList_nil (.ret ?_)))
    have Il:kind=3:=by simp[aW]at hb;omega
    refine dN (RR:=fun e w'=>e=.returned (.int .i64 (cH kind:Int))/\w'=w) h rfl ⟨?_,rfl⟩
    simp[cH,Il]
   ·have Il:kind≠3:=by simp[aW]at hb;omega
    refine .skip (aw (aP (ae h .i (by omega) fun a h=>wpList_nil (.ret ?_))))
    refine dN (RR:=fun e w'=>e=.returned (.int .i64 (cH kind:Int))/\w'=w) h rfl ⟨?_,rfl⟩
    simp[cH,h1,hk,Il]
 refine aw (aw (aP (br h rfl (.t rfl) .i (by omega) fun a h=>ae h (.t rfl) (by omega) fun a h=>wpList_nil ?_)))
 refine bn h rfl (fun hb=>?_) (fun hb=>?_)
 ·have hk:kind=2:=by simp[aW]at hb;omega
  exact .skip (rest _ a _ h rfl rfl (by simp[aW,hk]))
 ·have hk:kind≠2:=by simp[aW]at hb;omega
  refine aP (br h rfl (.t rfl) .i (by omega) fun a h=>ae h (.t rfl) (by omega) fun a h=>wpList_nil ?_)
  refine rest _ a _ h rfl rfl ?_
  simp only[aW]
  exact decide_eq_decide.2 (by omega)
end
end
section
open Go
set_option maxRecDepth 4000
section
variable {P:Program} {S:SN}
section
variable {ops:Array Oper} {Q:Exit->Act->World->Prop} {r:List Oper} {n:Nat} {a:Act} {w:World} {l:List (Nat × Value)}
theorem sd (h:St n a l){d t:Nat}{x y:Operand}{k:IntKind}{p q:Int}(hx:Hd l x (.int k p))(hy:Hd l y (.int k q))(hd:d<n)(c:∀ a',St n a' ((d,.int k (if q<p then q else p))::l)->wpList P ops Q r a' w) :
  wpList P ops Q (bi (some d) .min [x,y] [t,t] t::r) a w:=by
 have hw:Region.wanted (bi (some d) .min [x,y] [t,t] t) (yielded ops a.tmps)=true:=by simp[Region.wanted,bi]
 unfold wpList
 rw[if_pos hw]
 refine .inl ?_
 unfold Oper.wp
 have:(execOp a.eval (bi (some d) .min [x,y] [t,t] t)).run P w=.ok (.value (.int k (if q<p then q else p))) w:=by
  simp[execOp,bi,resolve,invoke,builtin,hx n a h,hy n a h,Builtin.min_,Builtin.min2]
 rw[this]
 exact c _ (h.put _ hd)
theorem BD (h:St n a l){d t:Nat}{x y:Operand}{k:IntKind}{p q:Int}(hx:Hd l x (.int k p))(hy:Hd l y (.int k q))(hd:d<n)(c:∀ a',St n a' ((d,.int k (if p<q then q else p))::l)->wpList P ops Q r a' w) :
  wpList P ops Q (bi (some d) .max [x,y] [t,t] t::r) a w:=by
 have hw:Region.wanted (bi (some d) .max [x,y] [t,t] t) (yielded ops a.tmps)=true:=by simp[Region.wanted,bi]
 unfold wpList
 rw[if_pos hw]
 refine .inl ?_
 unfold Oper.wp
 have:(execOp a.eval (bi (some d) .max [x,y] [t,t] t)).run P w=.ok (.value (.int k (if p<q then q else p))) w:=by
  simp[execOp,bi,resolve,invoke,builtin,hx n a h,hy n a h,Builtin.max_,Builtin.max2]
 rw[this]
 exact c _ (h.put _ hd)
theorem qG (h:St n a l){d ty:Nat}{b:Builtin}{args:List Operand}{tys:List Nat}{v:Value}{w':World}(Im:(execOp a.eval (bi (some d) b args tys ty)).run P w=.ok (.value v) w')(hd:d<n)(c:∀ a',St n a' ((d,v)::l)->wpList P ops Q r a' w') :
  wpList P ops Q (bi (some d) b args tys ty::r) a w:=by
 have hw:Region.wanted (bi (some d) b args tys ty) (yielded ops a.tmps)=true:=by simp[Region.wanted,bi]
 unfold wpList
 rw[if_pos hw]
 refine .inl ?_
 unfold Oper.wp
 rw[Im]
 exact c _ (h.put _ hd)
theorem ml {F E m c k sz:Nat}{base:Option Addr}{x y:Operand}{d:Option Nat}(hx:a.eval x=.slice base m c)(hy:a.eval y=.int .i64 (k:Int))(hk:k<=c)(hb:base=none->c=0)(hF:P.underlying F=some (.slice E))(hs:∀ w,(sizeOf E).run P w=.ok sz w) :
  (execOp a.eval (mk d (.slice F x none (some y) none))).run P w=.ok (.value (.slice base k c)) w:=by
 have Jo:¬ ((k:Int)<0):=by omega
 cases base with
 | none=>
  obtain rfl:=hb rfl
  obtain rfl:k=0:=by omega
  simp[execOp,mk,hx,hy,Instr.sliceAt,Instr.slice,run_underlying hF,Instr.sliceBounds,Instr.sliceBound,asIntOf,hs]
 | some b=>
  by_cases hc:c=0
  ·subst hc
   obtain rfl:k=0:=by omega
   simp[execOp,mk,hx,hy,Instr.sliceAt,Instr.slice,run_underlying hF,Instr.sliceBounds,Instr.sliceBound,asIntOf,hs]
  ·simp[execOp,mk,hx,hy,Instr.sliceAt,Instr.slice,run_underlying hF,Instr.sliceBounds,Instr.sliceBound,asIntOf,hs,hk,Addr.add]
theorem kq (h:St n a l){d F E m c k sz:Nat}{base:Option Addr}{x y:Operand}(hx:Hd l x (.slice base m c))(hy:Hd l y (.int .i64 (k:Int)))(hk:k<=c)(hb:base=none->c=0)(hF:P.underlying F=some (.slice E))(hs:∀ w,(sizeOf E).run P w=.ok sz w)(hd:d<n)
  (q:∀ a',St n a' ((d,.slice base k c)::l)->wpList P ops Q r a' w):wpList P ops Q (mk (some d) (.slice F x none (some y) none)::r) a w:=
 aB (ml (hx n a h) (hy n a h) hk hb hF hs) (q _ (h.put _ hd))
end
section
variable {ops:Array Oper} {Q:Exit->Act->World->Prop} {r:List Oper} {n:Nat} {a:Act} {w:World} {l:List (Nat × Value)}
theorem ek (h:St n a l){d j jd:Nat}{x:Operand}{b:Bool}{v:Value}{o:Oper}(ho:ops[j]?=some o)(JN:o.dst=some jd)(hj:l.lookup jd=some (.bool b))(JQ:jd<n)(hx:Hd l x v)(hd:d<n)(c:∀ a',St n a' ((d,v)::l)->wpList P ops Q r a' w) :
  wpList P ops Q (gd d (.move x) j b::r) a w:=ld h ho JN hj JQ (by simp[execOp,mk,hx n a h]) hd c
theorem kv (h:St n a l){d j jd:Nat}{x:Operand}{b:Bool}{o:Oper}{TT k F B O off sz:Nat}{agg:Bool}(ho:ops[j]?=some o)(JN:o.dst=some jd)(hj:l.lookup jd=some (.bool b))(JQ:jd<n)(hx:Hd l x (pt B O))(hF:bw P TT k F off agg sz)(hd:d<n)(c:∀ a',St n a' ((d,pt B (O+off))::l)->wpList P ops Q r a' w) :
  wpList P ops Q (gd d (.fieldAddr TT x k) j b::r) a w:=by
 obtain⟨fs,f,h1,h2,h3,h4⟩:=hF.fld
 obtain⟨q,rfl⟩:∃ q,sz=q+1:=⟨sz-1,by have:=hF.pos;omega⟩
 have e:=hx n a h
 simp only[pt]at e
 have hn:∀ w,(sizeOf f.type).run P w=.ok (q+1) w:=fun w=>by rw[h4];exact hF.var.size w
 refine ld h ho JN hj JQ ?_ hd c
 simp[execOp,mk,e,Instr.fieldAt,run_underlying h1,h2,h3,fieldPlace,hn,Instr.sureAddr,Addr.add_lit,pt]
theorem gH (h:St n a l){d j jd:Nat}{x:Operand}{b:Bool}{o:Oper}{F B O sz:Nat}{v:Value}(ho:ops[j]?=some o)(JN:o.dst=some jd)(hj:l.lookup jd=some (.bool b))(JQ:jd<n)(hx:Hd l x (pt B O))(hF:bc P F false sz)(hv:w.cell? ⟨B,O,none⟩=some v)(hd:d<n)(c:∀ a',St n a' ((d,v)::l)->wpList P ops Q r a' w) :
  wpList P ops Q (gd d (.load F x) j b::r) a w:=by
 have e:=hx n a h
 simp only[pt]at e
 refine ld h ho JN hj JQ ?_ hd c
 simp[execOp,mk,e,Instr.loadAt,Instr.sureAddr,loadVar,hF.agg w,load,hv,Sem.run]
theorem lO (h:St n a l){d j jd:Nat}{x y:Operand}{b:Bool}{o:Oper}{op:BinOp}{T:Nat}{k:IntKind}{p q:Int}(ho:ops[j]?=some o)(JN:o.dst=some jd)(hj:l.lookup jd=some (.bool b))(JQ:jd<n)(hc:rq op=true)(hx:Hd l x (.int k p))(hy:Hd l y (.int k q))(hd:d<n)(c:∀ a',St n a' ((d,.bool (aW op p q))::l)->wpList P ops Q r a' w) :
  wpList P ops Q (gd d (.binOp op T x y 0) j b::r) a w:=by
 refine ld h ho JN hj JQ ?_ hd c
 have he:(eqGuard op T x y (.int k p) (.int k q)).run P w=.ok () w:=by
  unfold eqGuard
  cases op<;>simp
 simp only[execOp,mk,hx n a h,hy n a h,Sem.run_bind,he,Result.andThen_ok,ik (mQ hc p q),Sem.run_pure]
theorem pB (h:St n a l){d j jd:Nat}{x y z:Operand}{b b':Bool}{u v:Value}{o:Oper}(ho:ops[j]?=some o)(JN:o.dst=some jd)(hj:l.lookup jd=some (.bool b))(JQ:jd<n)(hx:Hd l x (.bool b'))(hy:Hd l y u)(hz:Hd l z v)(hd:d<n)(c:∀ a',St n a' ((d,if b' then u else v)::l)->wpList P ops Q r a' w) :
  wpList P ops Q (gd d (.pick x y z) j b::r) a w:=by
 refine ld h ho JN hj JQ ?_ hd c
 cases b'<;>simp[execOp,mk,hx n a h,hy n a h,hz n a h,asBool]
theorem dQ (h:St n a l){d j jd:Nat}{op:Op}{b:Bool}{o:Oper}(ho:ops[j]?=some o)(JN:o.dst=some jd)(hj:l.lookup jd=some undef)(JQ:jd<n)(hd:d<n)
  (c:∀ a',St n a' ((d,undef)::l)->wpList P ops Q r a' w):wpList P ops Q (gd d op j b::r) a w:=by
 have hy:yielded ops a.tmps j=none:=by
  have:a.tmps[jd]?=some undef:=by
   have h1:=h.get _ _ hj
   rw[<- h1]
   simp[Act.get,h.size,JQ]
  simp[yielded,ho,JN,this,undef]
 unfold wpList gd
 rw[if_neg (by simp[Region.wanted,hy])]
 exact c _ (h.put _ hd)
end
theorem nP (m:Nat):(if(32767:Int)<(m:Int) then(32767:Int) else(m:Int))=((min m aH:Nat):Int):=by simp only[aH];split<;>omega
theorem wT (T:RefT P S)(hfn:FnIs P S.fWhole 8 [2] (csWh S)){w:World}{X:Nat->Prop}{v:Value}{bs:Bs}(hv:qx w X v bs) :
  Calls P S.fWhole [v].toArray w fun e w'=>∃ v',e=.returned v'/\qx w X v' (bs.take aH)/\w'=w:=by
 have JB:∃ base c,v=.slice base bs.length c/\bs.length<=c/\(base=none->c=0)/\qx w X (.slice base (min bs.length aH) c) (bs.take aH):=by
  rcases hv with⟨base,rfl,rfl⟩|⟨rfl,rfl⟩|⟨b,o,c,rfl,h1,h2,h3,h4,h5⟩
  ·exact⟨base,0,rfl,Nat.le_refl _,fun _=>rfl,.inl ⟨base,by simp,by simp⟩⟩
  ·exact⟨none,0,rfl,Nat.le_refl _,fun _=>rfl,.inl ⟨none,by simp,by simp⟩⟩
  ·refine⟨_,c,rfl,h3,(fun h=>by cases h),.inr <| .inr ⟨b,o,c,by rw[List.length_take,Nat.min_comm],h1,h2,by rw[List.length_take];omega,h4,fun i x hx=>h5 i x ?_⟩⟩
   rw[List.getElem?_take]at hx
   split at hx
   ·exact hx
   ·cases hx
 obtain⟨base,c,rfl,hc,hb,hr⟩:=JB
 refine bJ T.mixed hfn (by simp) _ (by simp) fun a h=>?_
 unfold csWh
 refine aw (aP (ae h .c (by omega) fun a h=>wpList_nil ?_))
 refine aw (aP (ai h (.t rfl) (by omega) fun a h=>ai h (.t rfl) (by omega) fun a h=>cM h (.t rfl) T.oct.und (by omega) fun a h=>sd h (.t rfl) .i (by omega) fun a h=>?_))
 rw[nP]at h
 refine kq h (.t rfl) (.t rfl) (by omega) hb T.oct.und T.vU8.size (by omega) fun a h=>ae h (.t rfl) (by omega) fun a h=>wpList_nil (.ret ?_)
 exact dN (RR:=fun e w'=>∃ v',e=.returned v'/\qx w X v' (bs.take aH)/\w'=w) h rfl ⟨_,rfl,hr,rfl⟩
theorem xl (T:RefT P S)(hfn:FnIs P S.fThings 8 [2] (csTh S)){α:Type}{w:World}{El:List Value->α->Prop}{v:Value}{xs:List α}(hv:dh w 5 El v xs) :
  Calls P S.fThings [v].toArray w fun e w'=>∃ v',e=.returned v'/\dh w 5 El v' (xs.take aH)/\w'=w:=by
 have JB:∃ base c,v=.slice base xs.length c/\xs.length<=c/\(base=none->c=0)/\dh w 5 El (.slice base (min xs.length aH) c) (xs.take aH):=by
  rcases hv with⟨base,rfl,rfl⟩|⟨b,o,c,rfl,h3,h4,h5⟩
  ·exact⟨base,0,rfl,Nat.le_refl _,fun _=>rfl,.inl ⟨base,by simp,by simp⟩⟩
  ·refine⟨_,c,rfl,h3,(fun h=>by cases h),.inr ⟨b,o,c,by rw[List.length_take,Nat.min_comm],by rw[List.length_take];omega,h4,fun i x hx=>h5 i x ?_⟩⟩
   rw[List.getElem?_take]at hx
   split at hx
   ·exact hx
   ·cases hx
 obtain⟨base,c,rfl,hc,hb,hr⟩:=JB
 refine bJ T.mixed hfn (by simp) _ (by simp) fun a h=>?_
 unfold csTh
 refine aw (aP (ae h .c (by omega) fun a h=>wpList_nil ?_))
 refine aw (aP (ai h (.t rfl) (by omega) fun a h=>ai h (.t rfl) (by omega) fun a h=>cM h (.t rfl) T.dTs (by omega) fun a h=>sd h (.t rfl) .i (by omega) fun a h=>?_))
 rw[nP]at h
 refine kq h (.t rfl) (.t rfl) (by omega) hb T.dTs T.vT.size (by omega) fun a h=>ae h (.t rfl) (by omega) fun a h=>wpList_nil (.ret ?_)
 exact dN (RR:=fun e w'=>∃ v',e=.returned v'/\dh w 5 El v' (xs.take aH)/\w'=w) h rfl ⟨_,rfl,hr,rfl⟩
theorem lC (w:World)(cs:List Value)(T:Nat){o:Nat}{v:Value}(h:cs[o]?=some v):(w.alloc (.cells cs.toArray T (0,0))).cell? ⟨w.heap.size,0+o,none⟩=some v:=by
 have:=aE w (.cells cs.toArray T (0,0))
 simp only[World.cell?,this,Option.isSome_none,Bool.false_eq_true,if_false,Nat.zero_add,List.getElem?_toArray,h]
theorem bB (w:World)(cs:List Value)(T:Nat):au (w.alloc (.cells cs.toArray T (0,0))) w.heap.size 0 cs:=fun _j _c hj=>lC w cs T hj
theorem au.at {w:World}{b o j:Nat}{cs:List Value}{v:Value}(h:au w b o cs)(hj:cs[j]?=some v):w.cell? ⟨b,o+j,none⟩=some v:=h j v hj
theorem vW (T:RefT P S)(hfn:FnIs P S.fHas 20 [4] (csHs S))(kind:Nat)(lo hi nul tag df:Int)(of:Nat)(sv:Value)(ver:Int)(w:World) :
  Calls P S.fHas [.agg (aV kind lo hi nul tag df of sv).toArray,.int .i64 ver].toArray w fun e w'=>e=.returned (.bool (ka lo hi ver))/\ac (fun _=>False) w w':=by
 refine bJ T.mixed hfn (by simp) _ (by simp) fun a h=>?_
 unfold csHs
 refine aw (aP (dx h (.t rfl) (by omega) fun a h=>ae h .c (by omega) fun a h=>wpList_nil ?_))
 have hk:ac (fun _=>False) w (w.alloc (.cells (aV kind lo hi nul tag df of sv).toArray S.tF (0,0))):=ac.alloc _ _ _
 have hc:=bB w (aV kind lo hi nul tag df of sv) S.tF
 generalize w.alloc (.cells (aV kind lo hi nul tag df of sv).toArray S.tF (0,0))=w1 at hk hc ⊢
 refine aw (aP ?_)
 refine bO h (.t rfl) T.f1 (by omega) fun a h=>aU h (.t rfl) T.f1.var (hc.at (j:=1) rfl) (by omega) fun a h=>ai h (.t rfl) (by omega) fun a h=>br h rfl (.t rfl) (.t rfl) (by omega) fun a h=>ai h (.t rfl) (by omega) fun a h=>?_
 have fin:∀ (a:Act) (l:List (Nat × Value)) (b:Bool),St 20 a l->l.lookup 4=some (.bool b)->b=ka lo hi ver->aK P .ret (Rt (fun a' w'=>a'.defers=[]/\Ending.returned (bj [4] a')=.returned (.bool (ka lo hi ver))/\ac (fun _=>False) w w') (fun a' w'=>a'.defers=[]/\Ending.returned (bj [4] a')=.returned (.bool (ka lo hi ver))/\ac (fun _=>False) w w')) a w1:=fun a l b h h4 hb=>
  .ret (dN (RR:=fun e w'=>e=.returned (.bool (ka lo hi ver))/\ac (fun _=>False) w w') h h4 ⟨by rw[hb],hk⟩)
 cases IX:aW .leq lo ver with
 | false=>
  rw[IX]at h
  refine aM h rfl rfl rfl (by omega) (by simp) (by omega) fun a h=>aM h rfl rfl rfl (by omega) (by simp) (by omega) fun a h=>aM h rfl rfl rfl (by omega) (by simp) (by omega) fun a h=>aM h rfl rfl rfl (by omega) (by simp) (by omega) fun a h=>?_
  refine dQ h rfl rfl rfl (by omega) (by omega) fun a h=>dQ h rfl rfl rfl (by omega) (by omega) fun a h=>dQ h rfl rfl rfl (by omega) (by omega) fun a h=>dQ h rfl rfl rfl (by omega) (by omega) fun a h=>?_
  refine aM h rfl rfl rfl (by omega) (by simp) (by omega) fun a h=>cr h (.t rfl) (.t rfl) .c (by omega) fun a h=>ae h (.t rfl) (by omega) fun a h=>wpList_nil (fin a _ _ h rfl ?_)
  simp only[aW,decide_eq_false_iff_not]at IX
  simp[ka,IX]
 | true=>
  rw[IX]at h
  refine kv h rfl rfl rfl (by omega) (.t rfl) T.f2 (by omega) fun a h=>gH h rfl rfl rfl (by omega) (.t rfl) T.f2.var (hc.at (j:=2) rfl) (by omega) fun a h=>lO h rfl rfl rfl (by omega) rfl (.t rfl) .i (by omega) fun a h=>ek h rfl rfl rfl (by omega) (.t rfl) (by omega) fun a h=>?_
  cases IK:aW .lss hi 0 with
  | true=>
   rw[IK]at h
   refine aM h rfl rfl rfl (by omega) (by simp) (by omega) fun a h=>aM h rfl rfl rfl (by omega) (by simp) (by omega) fun a h=>aM h rfl rfl rfl (by omega) (by simp) (by omega) fun a h=>aM h rfl rfl rfl (by omega) (by simp) (by omega) fun a h=>?_
   refine pB h rfl rfl rfl (by omega) (.t rfl) .c (.t rfl) (by omega) fun a h=>cr h (.t rfl) (.t rfl) .c (by omega) fun a h=>ae h (.t rfl) (by omega) fun a h=>wpList_nil (fin a _ _ h rfl ?_)
   simp only[aW,decide_eq_true_eq]at IX IK
   simp[ka,IX,IK]
  | false=>
   rw[IK]at h
   refine ek h rfl rfl rfl (by omega) (.t rfl) (by omega) fun a h=>kv h rfl rfl rfl (by omega) (.t rfl) T.f2 (by omega) fun a h=>gH h rfl rfl rfl (by omega) (.t rfl) T.f2.var (hc.at (j:=2) rfl) (by omega) fun a h=>lO h rfl rfl rfl (by omega) rfl (.t rfl) (.t rfl) (by omega) fun a h=>?_
   refine pB h rfl rfl rfl (by omega) (.t rfl) .c (.t rfl) (by omega) fun a h=>cr h (.t rfl) (.t rfl) .c (by omega) fun a h=>ae h (.t rfl) (by omega) fun a h=>wpList_nil (fin a _ _ h rfl ?_)
   simp only[aW,decide_eq_true_eq,decide_eq_false_iff_not]at IX IK
   simp[ka,IX,IK,aW]
theorem sL (T:RefT P S)(_vB:bc P S.tB false 1)(hfn:FnIs P S.fNull 20 [6] (csNu S))(kind:Nat)(lo hi nul tag df:Int)(of:Nat)(sv:Value)(ver:Int)(nm:Int)(tn:Bool)(x1 x3 x4:Value)(w:World) :
  Calls P S.fNull [.agg (aV kind lo hi nul tag df of sv).toArray,.int .i64 ver,.agg [.int .i64 nm,x1,.bool tn,x3,x4].toArray].toArray w fun e w'=>e=.returned (.bool (tn&&bW nul ver))/\ac (fun _=>False) w w':=by
 refine bJ T.mixed hfn (by simp) _ (by simp) fun a h=>?_
 unfold csNu
 refine aw (aP (dx h (.t rfl) (by omega) fun a h=>?_))
 have hk:ac (fun _=>False) w (w.alloc (.cells (aV kind lo hi nul tag df of sv).toArray S.tF (0,0))):=ac.alloc _ _ _
 have hc:=bB w (aV kind lo hi nul tag df of sv) S.tF
 generalize w.alloc (.cells (aV kind lo hi nul tag df of sv).toArray S.tF (0,0))=w1 at hk hc ⊢
 refine dx h (.t rfl) (by omega) fun a h=>ae h .c (by omega) fun a h=>wpList_nil ?_
 have Ic:ac (fun _=>False) w1 (w1.alloc (.cells [.int .i64 nm,x1,.bool tn,x3,x4].toArray S.tT (0,0))):=ac.alloc _ _ _
 have ht:=bB w1 [.int .i64 nm,x1,.bool tn,x3,x4] S.tT
 generalize w1.alloc (.cells [.int .i64 nm,x1,.bool tn,x3,x4].toArray S.tT (0,0))=w2 at Ic ht ⊢
 have hc:=au.kn Ic hc
 have hk:=hk.trans Ic
 refine aw (aP ?_)
 have fin:∀ (a:Act) (l:List (Nat × Value)) (b:Bool),St 20 a l->l.lookup 6=some (.bool b)->b=(tn&&bW nul ver)->aK P .ret (Rt (fun a' w'=>a'.defers=[]/\Ending.returned (bj [6] a')=.returned (.bool (tn&&bW nul ver))/\ac (fun _=>False) w w') (fun a' w'=>a'.defers=[]/\Ending.returned (bj [6] a')=.returned (.bool (tn&&bW nul ver))/\ac (fun _=>False) w w')) a w2:=fun a l b h h4 hb=>
  .ret (dN (RR:=fun e w'=>e=.returned (.bool (tn&&bW nul ver))/\ac (fun _=>False) w w') h h4 ⟨by rw[hb],hk⟩)
 refine bO h (.t rfl) T.t2 (by omega) fun a h=>aU h (.t rfl) T.t2.var (ht.at (j:=2) rfl) (by omega) fun a h=>ai h (.t rfl) (by omega) fun a h=>?_
 cases tn with
 | false=>
  refine aM h rfl rfl rfl (by omega) (by simp) (by omega) fun a h=>aM h rfl rfl rfl (by omega) (by simp) (by omega) fun a h=>aM h rfl rfl rfl (by omega) (by simp) (by omega) fun a h=>?_
  refine cr h (.t rfl) (.t rfl) .c (by omega) fun a h=>ai h (.t rfl) (by omega) fun a h=>?_
  refine aM h rfl rfl rfl (by omega) (by simp) (by omega) fun a h=>aM h rfl rfl rfl (by omega) (by simp) (by omega) fun a h=>aM h rfl rfl rfl (by omega) (by simp) (by omega) fun a h=>aM h rfl rfl rfl (by omega) (by simp) (by omega) fun a h=>?_
  exact cr h (.t rfl) (.t rfl) .c (by omega) fun a h=>ae h (.t rfl) (by omega) fun a h=>wpList_nil (fin a _ _ h rfl rfl)
 | true=>
  refine kv h rfl rfl rfl (by omega) (.t rfl) T.f3 (by omega) fun a h=>gH h rfl rfl rfl (by omega) (.t rfl) T.f3.var (hc.at (j:=3) rfl) (by omega) fun a h=>lO h rfl rfl rfl (by omega) rfl (.t rfl) .i (by omega) fun a h=>?_
  refine cr h (.t rfl) (.t rfl) .c (by omega) fun a h=>ai h (.t rfl) (by omega) fun a h=>?_
  cases hb:aW .geq nul 0 with
  | false=>
   rw[hb]at h
   refine aM h rfl rfl rfl (by omega) (by simp) (by omega) fun a h=>aM h rfl rfl rfl (by omega) (by simp) (by omega) fun a h=>aM h rfl rfl rfl (by omega) (by simp) (by omega) fun a h=>aM h rfl rfl rfl (by omega) (by simp) (by omega) fun a h=>?_
   refine cr h (.t rfl) (.t rfl) .c (by omega) fun a h=>ae h (.t rfl) (by omega) fun a h=>wpList_nil (fin a _ _ h rfl ?_)
   simp only[aW,decide_eq_false_iff_not]at hb
   simp[bW,hb]
  | true=>
   rw[hb]at h
   refine ek h rfl rfl rfl (by omega) (.t rfl) (by omega) fun a h=>kv h rfl rfl rfl (by omega) (.t rfl) T.f3 (by omega) fun a h=>gH h rfl rfl rfl (by omega) (.t rfl) T.f3.var (hc.at (j:=3) rfl) (by omega) fun a h=>lO h rfl rfl rfl (by omega) rfl (.t rfl) (.t rfl) (by omega) fun a h=>?_
   refine cr h (.t rfl) (.t rfl) .c (by omega) fun a h=>ae h (.t rfl) (by omega) fun a h=>wpList_nil (fin a _ _ h rfl ?_)
   simp only[aW,decide_eq_true_eq]at hb
   simp[bW,hb,aW]
end
end
section
open Go
set_option maxRecDepth 4000
theorem pq {f x:Nat}(h:127<x):c7 (f+1) x=UInt8.ofNat (x%128+128)::c7 f (x/128):=by
 simp only[c7]
 rw[if_neg (by omega)]
theorem pu {f x:Nat}(h:x<=127):c7 f x=[UInt8.ofNat x]:=by
 cases f with
 | zero=>rfl
 | succ f=>simp only[c7];rw[if_pos (by omega)]
theorem mf:∀ (f x:Nat),(c7 f x).length<=f+1
 | 0,_=>by simp[c7]
 | f+1,x=>by
  have:=mf f (x/128)
  simp only[c7]
  split<;>simp<;>omega
section
variable {P:Program} {S:SN}
section
variable {ops:Array Oper} {Q:Exit->Act->World->Prop} {r:List Oper} {n:Nat} {a:Act} {w:World} {l:List (Nat × Value)}
theorem xG {k k2:IntKind}{A:Nat}{x:Int}{s:Nat}(hs:s<=k.bits)(w:World):(binOp .shr A (.int k x) (.int k2 (s:Int))).run P w=.ok (.int k (x/2^s)) w:=by
 have h1:¬ ((s:Int)<0):=by omega
 have h2:min s k.bits=s:=by omega
 have h3:(0:Int)<=2^s:=by
  have:=Int.pow_pos (n:=2) (m:=s) (by omega)
  omega
 simp only[binOp,Op.shift,h1,if_false,Int.toNat_natCast,h2,Sem.run_pure,Int.fdiv_eq_ediv_of_nonneg _ h3]
theorem xn (h:St n a l){d:Nat}{x y:Operand}{T:Nat}{k k2:IntKind}{p:Int}{s:Nat}(hx:Hd l x (.int k p))(hy:Hd l y (.int k2 (s:Int)))(hs:s<=k.bits)(hd:d<n)(c:∀ a',St n a' ((d,.int k (p/2^s))::l)->wpList P ops Q r a' w) :
  wpList P ops Q (mk (some d) (.binOp .shr T x y 0)::r) a w:=by
 refine aB ?_ (c _ (h.put _ hd))
 have he:(eqGuard .shr T x y (.int k p) (.int k2 (s:Int))).run P w=.ok () w:=by
  unfold eqGuard
  simp
 simp only[execOp,mk,hx n a h,hy n a h,Sem.run_bind,he,Result.andThen_ok,xG hs,Sem.run_pure]
theorem Ai {A m:Nat}(hm:m<128)(w:World):(binOp .or A (.int .u8 (m:Int)) (.int .u8 128)).run P w=.ok (.int .u8 ((m+128:Nat):Int)) w:=by
 have e1:BitVec.ofInt IntKind.u8.bits (m:Int)=BitVec.ofNat IntKind.u8.bits m:=by simp
 have e2:BitVec.ofInt IntKind.u8.bits 128=BitVec.ofNat IntKind.u8.bits 128:=BitVec.ofInt_natCast (n:=128) ..
 have e3:m ||| 128=m+128:=by
  have:=Nat.two_pow_add_eq_or_of_lt (i:=7) (b:=m) (by omega) 1
  rw[Nat.or_comm]
  simp at this
  omega
 have e4:(BitVec.ofNat IntKind.u8.bits m ||| BitVec.ofNat IntKind.u8.bits 128).toNat=m+128:=by
  rw[BitVec.toNat_or,BitVec.toNat_ofNat,BitVec.toNat_ofNat,Nat.mod_eq_of_lt (by simp[IntKind.bits];omega),Nat.mod_eq_of_lt (by simp[IntKind.bits]),e3]
 have hw:IntKind.u8.wrap ((m+128:Nat):Int)=((m+128:Nat):Int):=by simp[IntKind.wrap,IntKind.bits,IntKind.signed];omega
 have J0:(IntKind.u8≠IntKind.u8)=False:=by simp
 simp only[binOp,J0,if_false,Op.intBits,e1,e2,e4,hw,Sem.run_pure]
theorem p7 (h:St n a l)(ot:OctT P S.tSl S.tU8){d1 d2 L:Nat}{x o:Operand}{dv:Value}{bs:Bs}{b:UInt8}(hx:Hd l x (aJ b))(ho:∀ v,Hd ((d1,v)::l) o dv)(hd:aA w L S.tU8 dv bs)(hL:L<=w.heap.size)(hlim:bs.length+1<=di)(h1:d1<n)(h2:d2<n)
  (c:∀ v u w' a',aA w' L S.tU8 v (bs++[b])->ac (fun k=>L<=k) w w'->St n a' ((d2,v)::(d1,u)::l)->wpList P ops Q r a' w'):wpList P ops Q (mk (some d1) (.buildSlice S.tSl 1 #[(0,x)])::bi (some d2) .append [o,tm d1] [S.tSl,S.tSl] S.tSl::r) a w:=by
 refine kZ h ot hx h1 fun u a1 hu h=>?_
 have hk:ac (fun _=>False) w (w.alloc (.cells #[aJ b] S.tU8 (0,0))):=ac.alloc _ _ _
 refine iX h ot (ho u) (.t (by simp)) (hd.keep hk fun _ _ h=>h) (ig ot hu) (Nat.le_trans hL hk.size) hlim h2 fun v w' a' hg h=>?_
 exact c v u w' a' hg.dst ((hk.mono fun _ _ h=>h.elim).trans (hg.far (hd.keep hk fun _ _ h=>h))) h
end
def aZ (te:Nat)(bs:Bs)(w:World)(e:Ending)(w':World):Prop:=∃ v,e=.returned v/\aA w' w.heap.size te v bs/\ac (fun _=>False) w w'
theorem mt {te:Nat}{bs:Bs}{w w':World}{v:Value}(hd:aA w' w.heap.size te v bs)(hk:cz w w'):aZ te bs w (.returned v) w':=⟨v,rfl,hd,hk.keeps⟩
theorem lR {m:Nat}(h:m<256):(Value.int .u8 (m:Int))=aJ (UInt8.ofNat m):=by
 simp only[aJ]
 rw[H9 h]
theorem oG (T:RefT P S)(hfn:FnIs P S.fUv 20 [2] (csUvr S)){x:Nat}(hx:x<18446744073709551616)(w:World):Calls P S.fUv [.int .u64 (x:Int)].toArray w (aZ S.tU8 (uvar x) w):=by
 refine bJ T.mixed hfn (by simp) _ (by simp) fun a h=>?_
 unfold csUvr
 refine aw (aP (ae h .c (by omega) fun a h=>wpList_nil ?_))
 refine aw (aP (ae h .c (by omega) fun a h=>wpList_nil ?_))
 refine aw ?_
 refine ej (fun m a' w'=>∃ f v bs,f<=9/\m<128^(f+1)/\bs++c7 f m=uvar x/\aA w' w.heap.size S.tU8 v bs/\cz w w'/\St 20 a' [(0,.int .u64 (m:Int)),(3,v)]) x ⟨x,Nat.le_refl _,9,aF,[],Nat.le_refl _,by omega,rfl,aA.nil _ _ _,cz.refl w,h.pick ⟨rfl,rfl,trivial⟩⟩ ?_
 rintro m a w' hm ⟨f,v,bs,hf,Xn,he,hd,hk,h⟩
 refine aw (aw (aP (ai h (.t rfl) (by omega) fun a h=>br h rfl (.t rfl) .i (by omega) fun a h=>wpList_nil ?_)))
 have X0:bs.length<=10:=by
  have h1:=congrArg List.length he
  have h2:=mf 9 x
  simp only[List.length_append]at h1
  have:(uvar x).length<=10:=h2
  omega
 refine bn h rfl (fun hb=>?_) (fun hb=>?_)
 ·have Nn:127<m:=by simp[aW]at hb;omega
  obtain⟨f,rfl⟩:∃ g,f=g+1:=⟨f-1,by
   rcases Nat.eq_zero_or_pos f with h0|h0
   ·subst h0;simp at Xn;omega
   ·omega⟩
  rw[pq Nn]at he
  refine .skip (.block (aw (aP ?_)))
  refine ai h (.t rfl) (by omega) fun a h=>ai h (.t rfl) (by omega) fun a h=>?_
  refine dn h (.t rfl) .i (by simp) (nC (.inr (.inr rfl)) (by simp only[IntKind.bits];omega) w') (by omega) fun a h=>dP h (.t rfl) T.dU64 T.dU8 (by omega) fun a h=>?_
  have hw:IntKind.u8.wrap ((m%128:Nat):Int)=((m%128:Nat):Int):=by simp[IntKind.wrap,IntKind.bits,IntKind.signed];omega
  rw[hw]at h
  refine dn h (.t rfl) .i (by simp) (Ai (by omega) w') (by omega) fun a h=>?_
  rw[lR (by omega)]at h
  refine p7 h T.oct (.t rfl) (fun _=>.t rfl) hd hk.size (by simp only[di];omega) (by omega) (by omega) fun v2 u w2 a IG Ic h=>ae h (.t rfl) (by omega) fun a h=>wpList_nil ?_
  refine aP (ai h (.t rfl) (by omega) fun a h=>xn h (s:=7) (.t rfl) .i (by simp[IntKind.bits]) (by omega) fun a h=>ae h (.t rfl) (by omega) fun a h=>wpList_nil ?_)
  have VQ:(m:Int)/2^7=((m/128:Nat):Int):=by simp
  rw[VQ]at h
  refine⟨m/128,by omega,by omega,f,v2,bs++[UInt8.ofNat (m%128+128)],by omega,?_,?_,IG,hk.trans Ic,h.pick ⟨rfl,rfl,trivial⟩⟩
  ·have:m<128^(f+1)*128:=by rw[<- Nat.pow_succ];exact Xn
   exact Nat.div_lt_of_lt_mul (by omega)
  ·rw[<- he];simp
 ·have Iq:m<=127:=by simp[aW]at hb;omega
  rw[pu Iq]at he
  refine .exit ?_
  show aK P _ _ a w'
  refine aw (aP ?_)
  refine ai h (.t rfl) (by omega) fun a h=>ai h (.t rfl) (by omega) fun a h=>dP h (.t rfl) T.dU64 T.dU8 (by omega) fun a h=>?_
  have hw:IntKind.u8.wrap (m:Int)=(m:Int):=by simp[IntKind.wrap,IntKind.bits,IntKind.signed];omega
  rw[hw,lR (by omega)]at h
  refine p7 h T.oct (.t rfl) (fun _=>.t rfl) hd hk.size (by simp only[di];omega) (by omega) (by omega) fun v2 u w2 a IG Ic h=>ae h (.t rfl) (by omega) fun a h=>wpList_nil (.ret ?_)
  rw[he]at IG
  exact dN (RR:=aZ S.tU8 (uvar x) w) h rfl (mt IG (hk.trans Ic))
theorem AC (i:Nat)(x:Int):be (i+1) x=UInt8.ofNat (x/256^i%256).toNat::be i x:=rfl
theorem lW (T:RefT P S)(hfn:FnIs P S.fFix 22 [4] (csFi S))(x:Int){k:Nat}(Xs:k<=8)(w:World):Calls P S.fFix [.int .i64 x,.int .i64 (k:Int)].toArray w (aZ S.tU8 (be k x) w):=by
 refine bJ T.mixed hfn (by simp) _ (by simp) fun a h=>?_
 unfold csFi
 refine aw (aP (ae h .c (by omega) fun a h=>wpList_nil ?_))
 refine aw (aP (ae h .c (by omega) fun a h=>wpList_nil ?_))
 refine aw (aw (aP (ai h (.t rfl) (by omega) fun a h=>dn h (.t rfl) .i (by simp) (j6 w) (by omega) fun a h=>ae h (.t rfl) (by omega) fun a h=>wpList_nil ?_)))
 have Rf:IntKind.i64.wrap ((k:Int)-1)=(k:Int)-1:=by simp[IntKind.wrap,IntKind.bits,IntKind.signed];omega
 rw[Rf]at h
 refine ej (fun m a' w'=>∃ v bs,bs.length<=8/\bs++be m x=be k x/\aA w' w.heap.size S.tU8 v bs/\cz w w'/\St 22 a' [(0,.int .i64 x),(6,.int .i64 ((m:Int)-1)),(5,v)]) k ⟨k,Nat.le_refl _,aF,[],by simp,rfl,aA.nil _ _ _,cz.refl w,h.pick ⟨rfl,rfl,rfl,trivial⟩⟩ ?_
 rintro m a w' hm ⟨v,bs,hbl0,he,hd,hk,h⟩
 refine aw (aw (aP (ai h (.t rfl) (by omega) fun a h=>br h rfl (.t rfl) .i (by omega) fun a h=>wpList_nil ?_)))
 have X0:bs.length+m=k:=by
  have h1:=congrArg List.length he
  simp only[List.length_append,bY]at h1
  exact h1
 refine bn h rfl (fun hb=>?_) (fun hb=>?_)
 ·obtain⟨i,rfl⟩:∃ i,m=i+1:=⟨m-1,by simp[aW]at hb;omega⟩
  have hi:((i+1:Nat):Int)-1=(i:Int):=by omega
  rw[hi]at h
  refine .skip (aw (.block (aP ?_)))
  refine ai h (.t rfl) (by omega) fun a h=>ai h (.t rfl) (by omega) fun a h=>ai h (.t rfl) (by omega) fun a h=>dn h .i (.t rfl) (by simp) (xJ w') (by omega) fun a h=>?_
  have K8:IntKind.i64.wrap (8*(i:Int))=((8*i:Nat):Int):=by simp[IntKind.wrap,IntKind.bits,IntKind.signed];omega
  rw[K8]at h
  refine xn h (s:=8*i) (.t rfl) (.t rfl) (by simp[IntKind.bits];omega) (by omega) fun a h=>dP h (.t rfl) T.dI64 T.dU8 (by omega) fun a h=>?_
  rw[wM]at h
  have hb8:(Value.int .u8 ((UInt8.ofNat (x/2^(8*i)%256).toNat).toNat:Int))=aJ (UInt8.ofNat (x/256^i%256).toNat):=by
   have:(2:Int)^(8*i)=256^i:=by rw[Int.pow_mul];rfl
   rw[this];rfl
  rw[hb8]at h
  refine p7 h T.oct (.t rfl) (fun _=>.t rfl) hd hk.size (by simp only[di];omega) (by omega) (by omega) fun v2 u w2 a IG Ic h=>ae h (.t rfl) (by omega) fun a h=>wpList_nil ?_
  refine aP (ai h (.t rfl) (by omega) fun a h=>dn h (.t rfl) .i (by simp) (j6 w2) (by omega) fun a h=>ae h (.t rfl) (by omega) fun a h=>wpList_nil ?_)
  have Ka:IntKind.i64.wrap ((i:Int)-1)=(i:Int)-1:=by simp[IntKind.wrap,IntKind.bits,IntKind.signed];omega
  rw[Ka]at h
  refine⟨i,by omega,by omega,v2,bs++[UInt8.ofNat (x/256^i%256).toNat],by simp;omega,?_,IG,hk.trans Ic,h.pick ⟨rfl,rfl,rfl,trivial⟩⟩
  rw[<- he,AC];simp
 ·have LY:m=0:=by simp[aW]at hb;omega
  subst LY
  refine .exit ?_
  show aK P _ _ a w'
  refine aw (aP (ai h (.t rfl) (by omega) fun a h=>ae h (.t rfl) (by omega) fun a h=>wpList_nil (.ret ?_)))
  simp only[be,List.append_nil]at he
  rw[he]at hd
  exact dN (RR:=aZ S.tU8 (be k x) w) h rfl (mt hd hk)
theorem wg (T:RefT P S)(W6:Ent P S.fUv)(JG:∀ (x:Nat) (w:World),x<18446744073709551616->Calls P S.fUv [.int .u64 (x:Int)].toArray w (aZ S.tU8 (uvar x) w))(Uf:Ent P S.fFix)(Jq:∀ (x:Int) (k:Nat) (w:World),k<=8->Calls P S.fFix [.int .i64 x,.int .i64 (k:Int)].toArray w (aZ S.tU8 (be k x) w))
  (hfn:FnIs P S.fCnt 28 [8] (csCn S)) (fx null:Bool) {m k:Nat} (hm:m<=aH) (hk:k<=8) (w:World):Calls P S.fCnt [.bool fx,.bool null,.int .i64 (m:Int),.int .i64 (k:Int)].toArray w (aZ S.tU8 (gu fx null m k) w):=by
 refine bJ T.mixed hfn (by simp) _ (by simp) fun a h=>?_
 unfold csCn
 have K9:m<32768:=by simp only[aH]at hm;omega
 refine aw (aP (ae h .c (by omega) fun a h=>wpList_nil ?_))
 refine aw (.block (aw (aP (ai h (.t rfl) (by omega) fun a h=>ai h (.t rfl) (by omega) fun a h=>?_))))
 cases fx with
 | true=>
  refine ek h rfl rfl rfl (by omega) (.t rfl) (by omega) fun a h=>cr h (.t rfl) (.t rfl) .c (by omega) fun a h=>ae h (.t rfl) (by omega) fun a h=>wpList_nil ?_
  cases null with
  | true=>
   refine bn h rfl (fun _=>?_) (fun hb=>by cases hb)
   refine aw (aP (kZ h T.oct (b:=0) .i (by omega) fun v a hd h=>ae h (.t rfl) (by omega) fun a h=>wpList_nil (.ret ?_)))
   exact dN (RR:=aZ S.tU8 (gu true true m k) w) h rfl (mt hd (ac.alloc _ _ _))
  | false=>
   refine bn h rfl (fun hb=>by cases hb) (fun _=>?_)
   refine aw (aP (ai h (.t rfl) (by omega) fun a h=>ae h (.t rfl) (by omega) fun a h=>wpList_nil ?_))
   refine bn h rfl (fun _=>?_) (fun hb=>by cases hb)
   refine aw (aP (ai h (.t rfl) (by omega) fun a h=>dP h (.t rfl) T.dInt T.dU64 (by omega) fun a h=>dn h (.t rfl) .i (by simp) (dZ w) (by omega) fun a h=>?_))
   have hw:IntKind.u64.wrap (IntKind.u64.wrap (m:Int)+1)=((m+1:Nat):Int):=by simp[IntKind.wrap,IntKind.bits,IntKind.signed];omega
   rw[hw]at h
   refine aT h W6 (vs:=[.int .u64 ((m+1:Nat):Int)]) (fun n a h=>by simp only[List.map_cons,List.map_nil];rw[Hd.t (l:=_) rfl n a h]) (JG (m+1) w (by omega)) (by omega) fun e w' hR=>?_
   obtain⟨v,rfl,hd,hk⟩:=hR
   refine⟨v,rfl,fun a h=>ae h (.t rfl) (by omega) fun a h=>wpList_nil (.ret ?_)⟩
   exact dN (RR:=aZ S.tU8 (gu true false m k) w) h rfl ⟨v,rfl,hd,hk⟩
 | false=>
  refine aM h rfl rfl rfl (by omega) (by simp) (by omega) fun a h=>cr h (.t rfl) (.t rfl) .c (by omega) fun a h=>ae h (.t rfl) (by omega) fun a h=>wpList_nil ?_
  refine bn h rfl (fun hb=>by cases hb) (fun _=>?_)
  refine aw (aP (ai h (.t rfl) (by omega) fun a h=>ae h (.t rfl) (by omega) fun a h=>wpList_nil ?_))
  refine bn h rfl (fun hb=>by cases hb) (fun _=>?_)
  refine aw (aP (ai h (.t rfl) (by omega) fun a h=>ae h (.t rfl) (by omega) fun a h=>wpList_nil ?_))
  cases null with
  | true=>
   refine bn h rfl (fun _=>?_) (fun hb=>by cases hb)
   refine aw (aP (ai h (.t rfl) (by omega) fun a h=>?_))
   refine aT h Uf (vs:=[.int .i64 (-1),.int .i64 (k:Int)]) (fun n a h=>by simp only[List.map_cons,List.map_nil];rw[Hd.t (l:=_) rfl n a h];rfl) (Jq (-1) k w hk) (by omega) fun e w' hR=>?_
   obtain⟨v,rfl,hd,hk⟩:=hR
   refine⟨v,rfl,fun a h=>ae h (.t rfl) (by omega) fun a h=>wpList_nil (.ret ?_)⟩
   exact dN (RR:=aZ S.tU8 (gu false true m k) w) h rfl ⟨v,rfl,hd,hk⟩
  | false=>
   refine bn h rfl (fun hb=>by cases hb) (fun _=>?_)
   refine .skip (aw (aP (ai h (.t rfl) (by omega) fun a h=>ai h (.t rfl) (by omega) fun a h=>?_)))
   refine aT h Uf (vs:=[.int .i64 (m:Int),.int .i64 (k:Int)]) (fun n a h=>by simp only[List.map_cons,List.map_nil];rw[Hd.t (l:=_) (i:=25) rfl n a h,Hd.t (l:=_) (i:=26) rfl n a h]) (Jq m k w hk) (by omega) fun e w' hR=>?_
   obtain⟨v,rfl,hd,hk⟩:=hR
   refine⟨v,rfl,fun a h=>ae h (.t rfl) (by omega) fun a h=>wpList_nil (.ret ?_)⟩
   exact dN (RR:=aZ S.tU8 (gu false false m k) w) h rfl ⟨v,rfl,hd,hk⟩
end
end
section
open Go
set_option maxRecDepth 4000
theorem yy {w:World}{T:Nat}{z:Value}{cs:List Value}(_hz:z.cells.size=cs.length):ac (fun _=>False) w ((w.alloc (.cells z.cells T (0,0))).setRow w.heap.size cs.toArray)/\au ((w.alloc (.cells z.cells T (0,0))).setRow w.heap.size cs.toArray) w.heap.size 0 cs:=by
 have hn:=aE w (.cells z.cells T (0,0))
 refine⟨?_,fun j c hj=>?_⟩
 ·exact((ac.alloc (fun k=>k=w.heap.size) w _).trans (ac.setRow _ _ _ _ rfl)).mono fun k hk hX=>by omega
 ·have:=setRow_heap _ _ _ cs.toArray _ _ hn
  simp only[World.cell?,this,Option.isSome_none,Bool.false_eq_true,if_false,Nat.zero_add,List.getElem?_toArray,hj]
section
variable {P:Program} {S:SN}
section
variable {ops:Array Oper} {Q:Exit->Act->World->Prop} {r:List Oper} {n:Nat} {a:Act} {w:World} {l:List (Nat × Value)}
theorem lM (h:St n a l){d T:Nat}{z:Value}{x:Operand}{cs:List Value}(hz:∀ w,(zeroValue T).run P w=.ok z w)(K7:z.cells.size=cs.length)(hx:∀ v,Hd ((d,v)::l) x (.agg cs.toArray))(hs:∀ w,(sizeOf T).run P w=.ok cs.length w)(h1:∀ u∈cs,u.oneCell'=true)(hd:d<n)
  (c:∀ w' a',ac (fun _=>False) w w'->au w' w.heap.size 0 cs->St n a' ((d,pt w.heap.size 0)::l)->wpList P ops Q r a' w'):wpList P ops Q (mk (some d) (.alloc T)::mk none (.store T (tm d) x)::r) a w:=by
 refine gE h (hz w) hd fun a h=>?_
 have hn:=yy (w:=w) (T:=T) K7
 exact iD h (.t (by simp)) (hx _) (by simp[Value.cells]) hs (aE w _) K7 h1 (c _ _ hn.1 hn.2 h)
theorem iE (h:St n a l){d t:Nat}{ps:Array (Nat × Operand)}{qs:Array (Nat × Value)}{v:Value}(hp:∀ (n:Nat) (a:Act),St n a l->ps.map (fun p=>(p.1,a.eval p.2))=qs)(hb:(Instr.build t qs).run P w=.ok v w)(hd:d<n)(c:∀ a',St n a' ((d,v)::l)->wpList P ops Q r a' w) :
  wpList P ops Q (mk (some d) (.build t ps)::r) a w:=by
 refine aB ?_ (c _ (h.put _ hd))
 have e:=hp n a h
 simp[execOp,mk,e,hb]
end
theorem u9 (hm:P.follows .mixedOrders=true){f n s t:Nat}{c:Code}{w:World}{RR:Ending->World->Prop}(hfn:FnIsC P f n s t c)(args:List Value)(Iv:args.length<=n)
  (h:∀ a,St n a (yC 0 args)->aK P c (Rt (fun _ _=>False) (fun a w=>a.defers=[]/\∃ p v,a.get s=.pointer (some p)/\(loadVar t p).run P w=.ok v w/\RR (.returned v) w)) a w):Calls P f args.toArray w RR:=by
 refine hfn.calls hm (h _ ⟨ck args.toArray n (by simpa using Iv),rfl,fun i v hi=>?_⟩)
 obtain⟨_,h2⟩:=jG args 0 i v hi
 have h2:args[i]?=some v:=by simpa using h2
 have Id:i<args.length:=(List.getElem?_eq_some_iff.1 h2).1
 rw[b9 _ _ _ (by simpa using Id)]
 have:=(List.getElem?_eq_some_iff.1 h2).2
 simpa using this
theorem og (kind:Nat)(lo hi nul tag df:Int)(of:Nat){sv:Value}(h:sv.oneCell'=true):∀ u∈aV kind lo hi nul tag df of sv,u.oneCell'=true:=by
 intro u hu
 simp only[aV,List.mem_cons,List.not_mem_nil,or_false]at hu
 rcases hu with rfl|rfl|rfl|rfl|rfl|rfl|rfl|rfl<;>first|rfl|exact h
theorem ub {w:World}{sub:SFs}{sv:Value}(h:(sub=.nil/\sv=aF) \/ ∃ b' o' c',sv=.slice (some ⟨b',o',none⟩) sub.len c'/\sub.len<=maxLen/\jh w sub b' o'):sv.oneCell'=true:=by
 rcases h with⟨_,rfl⟩|⟨_,_,_,rfl,_⟩<;>rfl
def e8:SFs->Bool
 | .nil=>true
 | .cons _ _ _ _ tag _ _ _ r=>decide (tag<1000)&&e8 r
theorem oQ:∀ sf:SFs,e8 sf=true->aQ sf<=1000
 | .nil,_=>by simp[aQ]
 | .cons _ _ _ _ tag _ _ _ r,h=>by
  simp only[e8,Bool.and_eq_true,decide_eq_true_eq]at h
  have:=oQ r h.2
  simp only[aQ]
  split
  ·exact Nat.max_le.2 ⟨by omega,this⟩
  ·exact this
theorem rj (T:RefT P S)(hfn:FnIs P S.fKnown 23 [2] (csKw S)){sf:SFs}{fv:Value}(L2:e8 sf=true)(w:World)(hf:fu w sf fv):Calls P S.fKnown [fv].toArray w fun e w'=>e=.returned (.int .u32 (aQ sf:Int))/\ac (fun _=>False) w w':=by
 obtain⟨base,c,rfl,Ib,IQ⟩:=hf.form
 refine bJ T.mixed hfn (by simp) _ (by simp) fun a h=>?_
 unfold csKw
 refine aw (aP (ae h .i (by omega) fun a h=>wpList_nil ?_))
 refine aw (aP (ae h .i (by omega) fun a h=>wpList_nil ?_))
 refine aw (aw (aP (ai h (.t rfl) (by omega) fun a h=>cM h (.t rfl) T.dFs (by omega) fun a h=>ai h .i (by omega) fun a h=>wpList_nil ?_)))
 refine ej (fun m a' w'=>∃ (i cur:Nat) (rest:SFs),i+m=sf.len/\rest.len=m/\e8 rest=true/\Nat.max cur (aQ rest)=aQ sf/\(∀ b o,base=some ⟨b,o,none⟩->jh w sf b o->jh w rest b (o+i*8))/\ac (fun _=>False) w w' /\
   St 23 a' [(6,.slice base sf.len c),(7,.int .i64 (sf.len:Int)),(8,.int .i64 (i:Int)),(3,.int .u32 (cur:Int))]) sf.len
  ⟨sf.len,Nat.le_refl _,0,0,sf,by omega,rfl,L2,by simp,fun b o _ hh=>by simpa using hh,ac.refl _ _,h.pick ⟨rfl,rfl,rfl,rfl,trivial⟩⟩ ?_
 rintro m a w1 hm ⟨i,cur,rest,NE,Mp,T6,Kd,IP,hk,h⟩
 refine aw (aP (br h rfl (.t rfl) (.t rfl) (by omega) fun a h=>wpList_nil ?_))
 refine gn h rfl (fun hb=>?_) (fun hb=>?_)
 ·have Id:i<sf.len:=by simp[aW]at hb;omega
  refine .skip ?_
  cases hr:rest with
  | nil=>rw[hr]at Mp;simp[SFs.len]at Mp;omega
  | cons kind lo hi nul tag df of sub r=>
   subst hr
   obtain⟨b,o,rfl,VK⟩:=IQ.resolve_left (fun hh=>by rw[hh]at Id;simp[SFs.len]at Id)
   obtain⟨⟨sv,hc,Ky⟩,RE⟩:=IP b o rfl VK
   simp only[e8,Bool.and_eq_true,decide_eq_true_eq]at T6
   have Iz:au w1 b (o+i*8) (aV kind lo hi nul tag df of sv):=au.kn hk hc
   refine aw (.block (aw (aP ?_)))
   refine eD h (sz:=8) (.t rfl) (.t rfl) Id T.dFs T.vF.size (by omega) fun a h=>cn h (cs:=aV kind lo hi nul tag df of sv) (.t rfl) T.vF Iz (by omega) fun a h=>?_
   refine lM h (cs:=aV kind lo hi nul tag df of sv) T.zF rfl (fun _=>.t rfl) T.vF.size (og kind lo hi nul tag df of (ub Ky)) (by omega) fun w2 a Ic Jq h=>wpList_nil ?_
   refine aw (aP (bO h (.t rfl) T.f4 (by omega) fun a h=>aU h (.t rfl) T.f4.var (Jq.at (j:=4) rfl) (by omega) fun a h=>br h rfl (.t rfl) .i (by omega) fun a h=>wpList_nil ?_))
   have step:∀ (a:Act) (l:List (Nat × Value)) (w3:World) (cur':Nat),St 23 a l->l.lookup 6=some (.slice (some ⟨b,o,none⟩) sf.len c)->l.lookup 7=some (.int .i64 (sf.len:Int))->l.lookup 8=some (.int .i64 (i:Int))->l.lookup 3=some (.int .u32 (cur':Int))->Nat.max cur' (aQ r)=aQ sf->ac (fun _=>False) w w3 ->
     aK P (rg (Bi S)) (Exit.then (fun a' w'=>∃ m',m'<=sf.len/\m'<m/\∃ (i cur:Nat) (rest:SFs),i+m'=sf.len/\rest.len=m'/\e8 rest=true/\Nat.max cur (aQ rest)=aQ sf/\(∀ b' o',some (⟨b,o,none⟩:Addr)=some ⟨b',o',none⟩->jh w sf b' o'->jh w rest b' (o'+i*8))/\ac (fun _=>False) w w' /\
      St 23 a' [(6,.slice (some ⟨b,o,none⟩) sf.len c),(7,.int .i64 (sf.len:Int)),(8,.int .i64 (i:Int)),(3,.int .u32 (cur:Int))]) (Exit.inBlock 0 (Exit.then (aK P (.seq (rg (Bh S)) .ret) (Rt (fun a' w'=>a'.defers=[]/\Ending.returned (bj [2] a')=.returned (.int .u32 (aQ sf:Int))/\ac (fun _=>False) w w') (fun a' w'=>a'.defers=[]/\Ending.returned (bj [2] a')=.returned (.int .u32 (aQ sf:Int))/\ac (fun _=>False) w w')))
       (Rt (fun a' w'=>a'.defers=[]/\Ending.returned (bj [2] a')=.returned (.int .u32 (aQ sf:Int))/\ac (fun _=>False) w w') (fun a' w'=>a'.defers=[]/\Ending.returned (bj [2] a')=.returned (.int .u32 (aQ sf:Int))/\ac (fun _=>False) w w'))))) a w3:=by
    intro a l w3 cur' h h6 h7 h8 h3 Ph Il
    refine aP (dn h (.t h8) .i (by simp) (dZ w3) (by omega) fun a h=>?_)
    have hw:IntKind.i64.wrap ((i:Int)+1)=((i+1:Nat):Int):=by simp only[maxLen]at Ib;simp[IntKind.wrap,IntKind.bits,IntKind.signed];omega
    rw[hw]at h
    refine ai h (.t rfl) (by omega) fun a h=>wpList_nil ?_
    refine⟨m-1,by omega,by omega,i+1,cur',r,by omega,by simp only[SFs.len]at Mp;omega,T6.2,Ph,fun b' o' hbo hh=>?_,Il,h.pick ⟨?_,?_,rfl,?_,trivial⟩⟩
    ·have:=(IP b' o' hbo hh).2
     rw[show o'+(i+1)*8=o'+i*8+8 by omega]
     exact this
    ·simp only[List.lookup_cons];simpa using h6
    ·simp only[List.lookup_cons];simpa using h7
    ·simp only[List.lookup_cons];simpa using h3
   refine bn h rfl (fun hb=>?_) (fun hb=>?_)
   ·have h0:0<=tag:=by simp[aW]at hb;omega
    refine aP (ai h (.t rfl) (by omega) fun a h=>bO h (.t rfl) T.f4 (by omega) fun a h=>aU h (.t rfl) T.f4.var (Jq.at (j:=4) rfl) (by omega) fun a h=>dP h (.t rfl) T.dInt T.dU32 (by omega) fun a h=>dn h (.t rfl) .i (by simp) (dZ w2) (by omega) fun a h=>?_)
    have hw:IntKind.u32.wrap (IntKind.u32.wrap tag+1)=((tag.toNat+1:Nat):Int):=by simp[IntKind.wrap,IntKind.bits,IntKind.signed];omega
    rw[hw]at h
    refine BD h (.t rfl) (.t rfl) (by omega) fun a h=>?_
    have Ph:(if(cur:Int)<((tag.toNat+1:Nat):Int) then((tag.toNat+1:Nat):Int) else(cur:Int))=((Nat.max cur (tag.toNat+1):Nat):Int):=by
     show _=((max cur (tag.toNat+1):Nat):Int)
     split<;>omega
    rw[Ph]at h
    refine ae h (.t rfl) (by omega) fun a h=>wpList_nil ?_
    refine step a _ w2 _ h rfl rfl rfl rfl ?_ (hk.trans Ic)
    rw[<- Kd]
    simp only[aQ,if_pos h0]
    show max (max cur (tag.toNat+1)) (aQ r)=max cur (max (tag.toNat+1) (aQ r))
    omega
   ·have h0:¬ 0<=tag:=by simp[aW]at hb;omega
    refine .skip (step a _ w2 cur h rfl rfl rfl rfl ?_ (hk.trans Ic))
    rw[<- Kd]
    simp only[aQ,if_neg h0]
 ·have Jh:¬ i<sf.len:=by simp[aW]at hb;omega
  have LY:rest=.nil:=by
   cases rest with
   | nil=>rfl
   | cons=>simp only[SFs.len]at Mp;omega
  subst LY
  refine .exit ?_
  show aK P _ _ a w1
  refine aw (aP (ai h (.t rfl) (by omega) fun a h=>ae h (.t rfl) (by omega) fun a h=>wpList_nil (.ret ?_)))
  have M0:cur=aQ sf:=by rw[<- Kd];simp[aQ]
  exact dN (RR:=fun e w'=>e=.returned (.int .u32 (aQ sf:Int))/\ac (fun _=>False) w w') h rfl ⟨by rw[M0],hk⟩
theorem dh.get {α:Type}{w:World}{sz:Nat}{El:List Value->α->Prop}{v:Value}{xs:List α}(h:dh w sz El v xs){i:Nat}{x:α}(hi:xs[i]?=some x):∃ b o c cs,v=.slice (some ⟨b,o,none⟩) xs.length c/\cs.length=sz/\au w b (o+i*sz) cs/\El cs x:=by
 rcases h with⟨_,_,rfl⟩|⟨b,o,c,rfl,_,_,h3⟩
 ·simp at hi
 ·obtain⟨cs,a1,a2,a3⟩:=h3 i x hi
  exact⟨b,o,c,cs,rfl,a1,a2,a3⟩
theorem TrRp.one {w:World}:∀ {k:Nat} {cs:List Value} {t:Tr},TrRp w k cs t->∀ u∈cs,u.oneCell'=true
 | 0,_,_,hs=>hs.elim
 | _+1,_,_,hs=>by
  obtain⟨sv,lv,uv,rfl,h2,h3,h4⟩:=hs
  intro u hu
  simp only[List.mem_cons,List.not_mem_nil,or_false]at hu
  have a2:sv.oneCell'=true:=by obtain⟨_,_,rfl,_⟩:=h2.form;rfl
  have a3:lv.oneCell'=true:=by obtain⟨_,_,rfl,_⟩:=h3.form;rfl
  have a4:uv.oneCell'=true:=by obtain⟨_,_,rfl,_⟩:=h4.form;rfl
  rcases hu with rfl|rfl|rfl|rfl|rfl
  ·rfl
  ·exact a2
  ·rfl
  ·exact a3
  ·exact a4
theorem zh (T:RefT P S)(hfn:FnIsC P S.fAt 16 4 S.tT (csAt S)){k i:Nat}{cs:List Value}{t:Tr}(w:World)(ht:TrRp w k cs t) :
  Calls P S.fAt [.agg cs.toArray,.int .i64 (i:Int)].toArray w fun e w'=>∃ cs',e=.returned (.agg cs'.toArray)/\TrRp w k cs' (t.at i)/\ac (fun _=>False) w w':=by
 cases k with
 | zero=>exact ht.elim
 | succ k=>
 have NY:=ht
 obtain⟨sv,lv,uv,rfl,h2,h3,h4⟩:=ht
 refine u9 T.mixed hfn _ (by simp) fun a h=>?_
 unfold csAt
 refine aw (aP (dx h (.t rfl) (by omega) fun a h=>?_))
 have Ir:ac (fun _=>False) w (w.alloc (.cells [.int .i64 t.num,sv,.bool t.null,lv,uv].toArray S.tT (0,0))):=ac.alloc _ _ _
 have JG:=bB w [.int .i64 t.num,sv,.bool t.null,lv,uv] S.tT
 have If:(w.alloc (.cells [.int .i64 t.num,sv,.bool t.null,lv,uv].toArray S.tT (0,0))).heap.size=w.heap.size+1:=by simp
 generalize w.alloc (.cells [.int .i64 t.num,sv,.bool t.null,lv,uv].toArray S.tT (0,0))=w1 at Ir JG If ⊢
 refine gE h (T.zT w1) (by omega) fun a h=>wpList_nil ?_
 have hn:=aE w1 (.cells (Value.agg #[.int .i64 0,aF,.bool false,aF,aF]).cells S.tT (0,0))
 have Ic:ac (fun _=>False) w1 (w1.alloc (.cells (Value.agg #[.int .i64 0,aF,.bool false,aF,aF]).cells S.tT (0,0))):=ac.alloc _ _ _
 generalize w1.alloc (.cells (Value.agg #[.int .i64 0,aF,.bool false,aF,aF]).cells S.tT (0,0))=w2 at hn Ic ⊢
 have Jq:=au.kn Ic JG
 have hk:=Ir.trans Ic
 obtain⟨lb,lc,Oe,_,hlmx,_⟩:=h3.form
 have fin:∀ (cs':List Value) (a:Act) (l:List (Nat × Value)) (x:Operand),St 16 a l->Hd l x (.agg cs'.toArray)->l.lookup 4=some (pt w1.heap.size 0)->cs'.length=5->(∀ u∈cs',u.oneCell'=true)->TrRp w (k+1) cs' (t.at i)->∀ (ops:Array Oper) (R:Exit->Act->World->Prop),
   (∀ a' w',(a'.defers=[]/\∃ p v,a'.get 4=.pointer (some p)/\(loadVar S.tT p).run P w'=.ok v w'/\∃ cs',Ending.returned v=.returned (.agg cs'.toArray)/\TrRp w (k+1) cs' (t.at i)/\ac (fun _=>False) w w')->R .normal a' w')->wpList P ops R [mk none (.store S.tT (tm 4) x)] a w2:=by
  intro cs' a l x h hx h4' hl I5 htr ops R hR
  refine iD h (.t h4') hx (by simp[Value.cells]) (by rw[hl];exact T.vT.size) hn (by simp[Value.cells,hl]) I5 (wpList_nil (hR _ _ ⟨h.defers,⟨w1.heap.size,0,none⟩,.agg cs'.toArray,h.get 4 _ h4',?_,cs',rfl,htr,?_⟩))
  ·have hr:=setRow_heap _ _ _ cs'.toArray _ _ hn
   have Ia:∀ j v,cs'[j]?=some v->(w2.setRow w1.heap.size cs'.toArray).cell? ((⟨w1.heap.size,0,none⟩:Addr).add j)=some v:=fun j v hj=>by
    rw[Addr.add_lit]
    simp only[World.cell?,hr,Option.isSome_none,Bool.false_eq_true,if_false,Nat.zero_add,List.getElem?_toArray,hj]
   have NA:=run_loadCells_list (P:=P) (w2.setRow w1.heap.size cs'.toArray) ⟨w1.heap.size,0,none⟩ cs' Ia
   rw[hl]at NA
   simp[loadVar,T.vT.agg,T.vT.size,NA]
  ·exact((hk.mono (Y:=fun k=>k=w1.heap.size) fun _ _ h=>h.elim).trans (ac.setRow _ _ _ _ rfl)).mono fun k hk hX=>by omega
 refine aw (aw (aP ?_))
 refine ai h (.t rfl) (by omega) fun a h=>bO h (.t rfl) T.t3 (by omega) fun a h=>aU h (.t rfl) T.t3.var (Jq.at (j:=3) rfl) (by omega) fun a h=>?_
 have h':=h
 rw[Oe]at h'
 refine cM h' (.t rfl) T.dTs (by omega) fun a h=>br h rfl (.t rfl) (.t rfl) (by omega) fun a h=>wpList_nil ?_
 refine bn h rfl (fun hb=>?_) (fun hb=>?_)
 ·have Id:i<t.list.length:=by simp[aW]at hb;omega
  obtain⟨x,hx⟩:∃ x,t.list[i]?=some x:=⟨_,List.getElem?_eq_getElem Id⟩
  have IP:t.at i=x:=by simp[Tr.at,List.getD,hx]
  obtain⟨b,o,c,cs',hv,Ml,VU,Tx⟩:=h3.get hx
  refine aw (aP ?_)
  refine bO h (.t rfl) T.t3 (by omega) fun a h=>aU h (.t rfl) T.t3.var (Jq.at (j:=3) rfl) (by omega) fun a h=>ai h (.t rfl) (by omega) fun a h=>?_
  rw[hv]at h
  refine eD h (sz:=5) (.t rfl) (.t rfl) Id T.dTs T.vT.size (by omega) fun a h=>?_
  refine cn h (cs:=cs') (.t rfl) (by rw[Ml];exact T.vT) (au.kn hk VU) (by omega) fun a h=>?_
  refine fin cs' a _ _ h (.t rfl) rfl Ml Tx.one (by rw[IP];exact Tx.up (by omega)) _ _ fun a' w' hh=>.ret hh
 ·have Jh:¬ i<t.list.length:=by simp[aW]at hb;omega
  have IP:t.at i=.zero:=by simp[Tr.at,List.getD,List.getElem?_eq_none (by omega:t.list.length<=i)]
  refine .skip (aw (aP ?_))
  refine iE h (qs:=#[]) (fun _ _ _=>by simp) (T.bT w2) (by omega) fun a h=>?_
  refine fin [.int .i64 0,aF,.bool false,aF,aF] a _ _ h (.t rfl) rfl rfl (by simp[Value.oneCell',aF]) (by rw[IP];exact(TrRp.zero w).up (by omega)) _ _ fun a' w' hh=>.ret hh
end
end
section
open Go
set_option maxRecDepth 4000
structure LeafC (P:Program)(S:SN):Prop where
 tab:RefT P S
 vB:bc P S.tB false 1
 uvE:Ent P S.fUv
 uvC:∀ (x:Nat) (w:World),x<18446744073709551616->Calls P S.fUv [.int .u64 (x:Int)].toArray w (aZ S.tU8 (uvar x) w)
 fixE:Ent P S.fFix
 fixC:∀ (x:Int) (k:Nat) (w:World),k<=8->Calls P S.fFix [.int .i64 x,.int .i64 (k:Int)].toArray w (aZ S.tU8 (be k x) w)
 cntE:Ent P S.fCnt
 cntC:∀ (fx null:Bool) (m k:Nat) (w:World),m<=aH->k<=8->Calls P S.fCnt [.bool fx,.bool null,.int .i64 (m:Int),.int .i64 (k:Int)].toArray w (aZ S.tU8 (gu fx null m k) w)
 widE:Ent P S.fWid
 widC:∀ (kind:Nat) (w:World),Calls P S.fWid [.int .i64 (kind:Int)].toArray w fun e w'=>e=.returned (.int .i64 (cH kind:Int))/\w'=w
 whE:Ent P S.fWhole
 whC:∀ (w:World) (X:Nat->Prop) (v:Value) (bs:Bs),qx w X v bs->Calls P S.fWhole [v].toArray w fun e w'=>∃ v',e=.returned v'/\qx w X v' (bs.take aH)/\w'=w
 thE:Ent P S.fThings
 thC:∀ (w:World) (k:Nat) (v:Value) (xs:List Tr),dh w 5 (TrRp w k) v xs->Calls P S.fThings [v].toArray w fun e w'=>∃ v',e=.returned v'/\dh w 5 (TrRp w k) v' (xs.take aH)/\w'=w
 hasE:Ent P S.fHas
 hasC:∀ (kind:Nat) (lo hi nul tag df:Int) (of:Nat) (sv:Value) (ver:Int) (w:World),Calls P S.fHas [.agg (aV kind lo hi nul tag df of sv).toArray,.int .i64 ver].toArray w fun e w'=>e=.returned (.bool (ka lo hi ver))/\ac (fun _=>False) w w'
 nullE:Ent P S.fNull
 nullC:∀ (kind:Nat) (lo hi nul tag df:Int) (of:Nat) (sv:Value) (ver:Int) (nm:Int) (tn:Bool) (x1 x3 x4:Value) (w:World),Calls P S.fNull [.agg (aV kind lo hi nul tag df of sv).toArray,.int .i64 ver,.agg [.int .i64 nm,x1,.bool tn,x3,x4].toArray].toArray w fun e w'=>e=.returned (.bool (tn&&bW nul ver))/\ac (fun _=>False) w w'
 knE:Ent P S.fKnown
 knC:∀ (sf:SFs) (fv:Value) (w:World),e8 sf=true->fu w sf fv->Calls P S.fKnown [fv].toArray w fun e w'=>e=.returned (.int .u32 (aQ sf:Int))/\ac (fun _=>False) w w'
 atE:Ent P S.fAt
 atC:∀ (k i:Nat) (cs:List Value) (t:Tr) (w:World),TrRp w k cs t->Calls P S.fAt [.agg cs.toArray,.int .i64 (i:Int)].toArray w fun e w'=>∃ cs',e=.returned (.agg cs'.toArray)/\TrRp w k cs' (t.at i)/\ac (fun _=>False) w w'
 unE:Ent P S.fUnk
 unC:∀ (sf:SFs) (fv uv:Value) (raw:List (UInt32 × Bs)) (w:World),e8 sf=true->fu w sf fv->dh w 2 (gk w) uv raw->Calls P S.fUnk [fv,uv].toArray w fun e w'=>∃ v raw',e=.returned v/\dh w' 2 (gk w') v raw'/\(raw'.map fun p=>(p.1.toNat,p.2))=gU (aQ sf) (raw.map fun p=>(p.1.toNat,p.2))/\ac (fun _=>False) w w'
def pl (P:Program)(S:SN)(sf:SFs):Prop:=∀ (w:World) (ver:Int) (fx:Bool) (k:Nat) (cs:List Value) (t:Tr) (fv:Value),fu w sf fv->TrRp w k cs t->(bh ver fx sf t).length<=di->Calls P S.fPart [fv,.int .i64 ver,.bool fx,.agg cs.toArray].toArray w (aZ S.tU8 (bh ver fx sf t) w)
section
variable {P:Program} {S:SN}
theorem xK {A:Nat}{x:Int}(w:World):(binOp .and A (.int .i64 x) (.int .i64 1)).run P w=.ok (.int .i64 (x%2)) w:=by
 have e2:BitVec.ofInt 64 1=1#64:=rfl
 have h0:(BitVec.ofInt 64 x &&& 1#64).toNat=(x%2).toNat:=by
  rw[BitVec.toNat_and,BitVec.toNat_ofInt]
  have:(1#64).toNat=1:=rfl
  rw[this,Nat.and_one_is_mod]
  have h1:(0:Int)<=x%((2^64:Nat):Int):=Int.emod_nonneg _ (by simp)
  have h2:x%((2^64:Nat):Int)%2=x%2:=Int.emod_emod_of_dvd x (by decide)
  omega
 have hw:IntKind.i64.wrap (((x%2).toNat:Nat):Int)=x%2:=by simp[IntKind.wrap,IntKind.bits,IntKind.signed];omega
 have J0:(IntKind.i64≠IntKind.i64)=False:=by simp
 have e:(BitVec.ofInt IntKind.i64.bits x &&& BitVec.ofInt IntKind.i64.bits 1).toNat=(x%2).toNat:=h0
 simp only[binOp,J0,if_false,Op.intBits,e,hw,Sem.run_pure]
theorem wZ (C:LeafC P S){W:World}{w:World}{fx null:Bool}{t:Tr}{B:Nat}{sv lv uv:Value}(Lh:kD W sv t.octets)(hk:cz W w)(hB:au w B 0 [.int .i64 t.num,sv,.bool t.null,lv,uv])
  (hlim:(dX fx null 2 t.octets).length<=di) {a:Act} (h:St 70 a [(11,pt B 0),(2,.bool null),(4,.bool fx)]) {R:Exit->Act->World->Prop} (hR:∀ a' w',(a'.defers=[]/\aZ S.tU8 (dX fx null 2 t.octets) W (.returned (a'.get 12)) w')->R .ret a' w') :
  aK P (.seq (rg (AY S)) (.seq (.seq (rg (xT S)) (.cond (tm 37) (rg (xS S)) .skip)) (.seq (rg (sF S)) .ret))) R a w:=by
 have T:=C.tab
 refine aw (aP (bO h (.t rfl) T.t1 (by omega) fun a h=>aU h (.t rfl) T.t1.var (hB.at (j:=1) rfl) (by omega) fun a h=>?_))
 refine aT h C.whE (vs:=[sv]) (fun n a h=>by simp only[List.map_cons,List.map_nil];rw[Hd.t (l:=_) (i:=35) rfl n a h]) (C.whC w (fun _=>False) sv t.octets (Lh.far hk)) (by omega) fun e w' hR1=>?_
 obtain⟨v14,rfl,P4,rfl⟩:=hR1
 refine⟨v14,rfl,fun a h=>ae h (.t rfl) (by omega) fun a h=>wpList_nil ?_⟩
 have rest:∀ (a:Act) (x:Value),St 70 a [(2,.bool null),(4,.bool fx),(14,x)]->kD w' x (dY null t.octets)->aK P (.seq (rg (sF S)) .ret) R a w':=by
  intro a x h hx
  obtain⟨bx,cx,M4,_⟩:=hx.form
  have JA:(dY null t.octets).length<=aH:=by
   simp only[dY]
   split
   ·simp
   ·exact f8 _
  refine aw (aP (ai h (.t rfl) (by omega) fun a h=>ai h (.t rfl) (by omega) fun a h=>ai h (.t rfl) (by omega) fun a h=>?_))
  have h':=h
  rw[M4]at h'
  refine cM h' (.t rfl) T.oct.und (by omega) fun a h=>?_
  rw[<- M4]at h
  refine aT h C.cntE (vs:=[.bool fx,.bool null,.int .i64 ((dY null t.octets).length:Int),.int .i64 ((2:Nat):Int)]) (fun n a h=>by
   simp only[List.map_cons,List.map_nil]
   rw[Hd.t (l:=_) (i:=38) rfl n a h,Hd.t (l:=_) (i:=39) rfl n a h,Hd.t (l:=_) (i:=41) rfl n a h];rfl) (C.cntC fx null _ 2 w' JA (by omega)) (by omega) fun e w2 JD=>?_
  obtain⟨v42,rfl,hd,Ic⟩:=JD
  have QG:=hx.keep Ic
  refine⟨v42,rfl,fun a h=>ai h (.t rfl) (by omega) fun a h=>?_⟩
  refine iX h T.oct (.t rfl) (.t rfl) hd (sh T.oct QG) Ic.size (by rw[<- List.length_append];exact hlim) (by omega) fun v w3 a hg h=>?_
  refine ae h (.t rfl) (by omega) fun a h=>wpList_nil (.ret (hR _ _ ⟨h.defers,v,by rw[h.get 12 v rfl],?_,?_⟩))
  ·exact(hg.lower (L':=W.heap.size) hk.size).dst
  ·exact cz.keeps ((hk.kn Ic).up hg.keeps fun i hi=>by have:=(hd.own hi).1;have:=hk.size;omega)
 refine aw (aw (aP (ai h (.t rfl) (by omega) fun a h=>wpList_nil ?_)))
 cases null with
 | true=>
  refine bn h rfl (fun _=>?_) (fun hb=>by cases hb)
  refine aP (ae h .c (by omega) fun a h=>wpList_nil ?_)
  exact rest a aF (h.pick ⟨rfl,rfl,rfl,trivial⟩) (.inl ⟨none,rfl,rfl⟩)
 | false=>
  refine bn h rfl (fun hb=>by cases hb) (fun _=>?_)
  exact .skip (rest a v14 (h.pick ⟨rfl,rfl,rfl,trivial⟩) P4)
theorem wY (C:LeafC P S){W:World}{w:World}{fx null:Bool}{t:Tr}{B:Nat}{sv lv uv:Value}(Lh:kD W sv t.octets)(hk:cz W w)(hB:au w B 0 [.int .i64 t.num,sv,.bool t.null,lv,uv])
  (hlim:(dX fx null 4 t.octets).length<=di) {a:Act} (h:St 70 a [(11,pt B 0),(2,.bool null),(4,.bool fx)]) {R:Exit->Act->World->Prop} (hR:∀ a' w',(a'.defers=[]/\aZ S.tU8 (dX fx null 4 t.octets) W (.returned (a'.get 12)) w')->R .ret a' w') :
  aK P (.seq (rg (xR S)) (.seq (.seq (rg (xQ S)) (.cond (tm 50) (rg (xP S)) .skip)) (.seq (rg (sD S)) .ret))) R a w:=by
 have T:=C.tab
 refine aw (aP (bO h (.t rfl) T.t1 (by omega) fun a h=>aU h (.t rfl) T.t1.var (hB.at (j:=1) rfl) (by omega) fun a h=>?_))
 refine aT h C.whE (vs:=[sv]) (fun n a h=>by simp only[List.map_cons,List.map_nil];rw[Hd.t (l:=_) (i:=48) rfl n a h]) (C.whC w (fun _=>False) sv t.octets (Lh.far hk)) (by omega) fun e w' hR1=>?_
 obtain⟨v14,rfl,P4,rfl⟩:=hR1
 refine⟨v14,rfl,fun a h=>ae h (.t rfl) (by omega) fun a h=>wpList_nil ?_⟩
 have rest:∀ (a:Act) (x:Value),St 70 a [(2,.bool null),(4,.bool fx),(15,x)]->kD w' x (dY null t.octets)->aK P (.seq (rg (sD S)) .ret) R a w':=by
  intro a x h hx
  obtain⟨bx,cx,M4,_⟩:=hx.form
  have JA:(dY null t.octets).length<=aH:=by
   simp only[dY]
   split
   ·simp
   ·exact f8 _
  refine aw (aP (ai h (.t rfl) (by omega) fun a h=>ai h (.t rfl) (by omega) fun a h=>ai h (.t rfl) (by omega) fun a h=>?_))
  have h':=h
  rw[M4]at h'
  refine cM h' (.t rfl) T.oct.und (by omega) fun a h=>?_
  rw[<- M4]at h
  refine aT h C.cntE (vs:=[.bool fx,.bool null,.int .i64 ((dY null t.octets).length:Int),.int .i64 ((4:Nat):Int)]) (fun n a h=>by
   simp only[List.map_cons,List.map_nil]
   rw[Hd.t (l:=_) (i:=51) rfl n a h,Hd.t (l:=_) (i:=52) rfl n a h,Hd.t (l:=_) (i:=54) rfl n a h];rfl) (C.cntC fx null _ 4 w' JA (by omega)) (by omega) fun e w2 JD=>?_
  obtain⟨v42,rfl,hd,Ic⟩:=JD
  have QG:=hx.keep Ic
  refine⟨v42,rfl,fun a h=>ai h (.t rfl) (by omega) fun a h=>?_⟩
  refine iX h T.oct (.t rfl) (.t rfl) hd (sh T.oct QG) Ic.size (by rw[<- List.length_append];exact hlim) (by omega) fun v w3 a hg h=>?_
  refine ae h (.t rfl) (by omega) fun a h=>wpList_nil (.ret (hR _ _ ⟨h.defers,v,by rw[h.get 12 v rfl],?_,?_⟩))
  ·exact(hg.lower (L':=W.heap.size) hk.size).dst
  ·exact cz.keeps ((hk.kn Ic).up hg.keeps fun i hi=>by have:=(hd.own hi).1;have:=hk.size;omega)
 refine aw (aw (aP (ai h (.t rfl) (by omega) fun a h=>wpList_nil ?_)))
 cases null with
 | true=>
  refine bn h rfl (fun _=>?_) (fun hb=>by cases hb)
  refine aP (ae h .c (by omega) fun a h=>wpList_nil ?_)
  exact rest a aF (h.pick ⟨rfl,rfl,rfl,trivial⟩) (.inl ⟨none,rfl,rfl⟩)
 | false=>
  refine bn h rfl (fun hb=>by cases hb) (fun _=>?_)
  exact .skip (rest a v14 (h.pick ⟨rfl,rfl,rfl,trivial⟩) P4)
end
end
end Go.Proofs.YtpoeajgpacfpoaaGreatDoor.Kx