/-
  PLAIN LAWS AND CONTRACTS of messages, part 13 of 18: how readers and writers are printed, what they do, what the reference writes, and that what is written is read as the same. Nothing of a statement stands here.
-/
import Derived.Test.YtbgklecbmhaadaaK1
import Derived.Test.YtbgklecbmhaadaaK2
import Derived.Test.YtbgklecbmhaadaaK3
import Derived.Test.YtbgklecbmhaadaaK4
import Derived.Test.YtbgklecbmhaadaaK6
import Derived.Test.YtbgklecbmhaadaaK8
import Derived.Test.YtbgklecbmhaadaaK11
import Derived.KernelRfl
import Derived.Laws.IdiomStrings

namespace Go.Proofs.Ytbgklecbmhaadaa.Kx
open Go
def z8B (P:Program) (t:Nat):Bool:=match P.info? t with
 | some i=>(match i.zero with | some (.int .u8 0)=>true | _=>false) && i.size == 1 && i.bytes == 1
 | none=>false
theorem z8_ok {P:Program} {t:Nat} (h:z8B P t=true):∃ i,P.info? t=some i/\i.zero=some (.int .u8 0)/\i.size=1/\i.bytes=1:=by
 unfold z8B at h
 split at h
 ·rename_i i hi
  simp only [Bool.and_eq_true,beq_iff_eq] at h
  refine ⟨i,hi,?_,h.1.2,h.2⟩
  have h1:=h.1.1
  split at h1
  ·assumption
  ·cases h1
 ·cases h
def iGB (P:Program) (t:Nat):Bool:=match P.info? t with
 | some i=>(match i.zero with | some (.agg ⟨[.int .u32 0,.slice none 0 0]⟩)=>true | _=>false) && i.size == 2 && i.bytes == 32
 | none=>false
theorem iG_ok {P:Program} {t:Nat} (h:iGB P t=true):∃ i,P.info? t=some i/\i.zero=some (.agg #[.int .u32 0,qs_])/\i.size=2/\i.bytes=32:=by
 unfold iGB at h
 split at h
 ·rename_i i hi
  simp only [Bool.and_eq_true,beq_iff_eq] at h
  refine ⟨i,hi,?_,h.1.2,h.2⟩
  have h1:=h.1.1
  split at h1
  ·assumption
  ·cases h1
 ·cases h
structure RefT (P:Program) (S:SN):Prop where
 mixed:P.follows .mixedOrders=true
 dInt:P.underlying S.tInt=some (.int .i64)
 dI64:P.underlying S.tI64=some (.int .i64)
 dU8:P.underlying S.tU8=some (.int .u8)
 dU32:P.underlying S.tU32=some (.int .u32)
 dU64:P.underlying S.tU64=some (.int .u64)
 oct:OctT P S.tSl S.tU8
 dTs:P.underlying S.tTs=some (.slice S.tT)
 dGs:P.underlying S.tGs=some (.slice S.tG)
 dFs:P.underlying S.tFs=some (.slice S.tF)
 vI64:jo_ P S.tI64 false 1
 vU8:jo_ P S.tU8 false 1
 vT:jo_ P S.tT true 5
 vF:jo_ P S.tF true 8
 vG:jo_ P S.tG true 2
 vM:jo_ P S.tMs true 2
 t0:jr_ P S.tT 0 S.tI64 0 false 1
 t1:jr_ P S.tT 1 S.tSl 1 false 1
 t2:jr_ P S.tT 2 S.tB 2 false 1
 t3:jr_ P S.tT 3 S.tTs 3 false 1
 t4:jr_ P S.tT 4 S.tGs 4 false 1
 f0:jr_ P S.tF 0 S.tInt 0 false 1
 f1:jr_ P S.tF 1 S.tInt 1 false 1
 f2:jr_ P S.tF 2 S.tInt 2 false 1
 f3:jr_ P S.tF 3 S.tInt 3 false 1
 f4:jr_ P S.tF 4 S.tInt 4 false 1
 f5:jr_ P S.tF 5 S.tI64 5 false 1
 f6:jr_ P S.tF 6 S.tInt 6 false 1
 f7:jr_ P S.tF 7 S.tFs 7 false 1
 g0:jr_ P S.tG 0 S.tU32 0 false 1
 g1:jr_ P S.tG 1 S.tSl 1 false 1
 m0:jr_ P S.tMs 0 S.tFs 0 false 1
 m1:jr_ P S.tMs 1 S.tInt 1 false 1
 zT:∀ w,(zeroValue S.tT).run P w=.ok (.agg #[.int .i64 0,qs_,.bool false,qs_,qs_]) w
 zF:∀ w,(zeroValue S.tF).run P w=.ok (.agg #[.int .i64 0,.int .i64 0,.int .i64 0,.int .i64 0,.int .i64 0,.int .i64 0,.int .i64 0,qs_]) w
 zG:∀ w,(zeroValue S.tG).run P w=.ok (.agg #[.int .u32 0,qs_]) w
 zM:∀ w,(zeroValue S.tMs).run P w=.ok (.agg #[qs_,.int .i64 0]) w
 z8:∃ i,P.info? S.tU8=some i/\i.zero=some (.int .u8 0)/\i.size=1/\i.bytes=1
 bT:∀ w,(Instr.build S.tT #[]).run P w=.ok (.agg #[.int .i64 0,qs_,.bool false,qs_,qs_]) w
 bG:∀ w,(Instr.build S.tG #[]).run P w=.ok (.agg #[.int .u32 0,qs_]) w
 bSG:∀ w,(Instr.buildSlice S.tGs 1 #[(0,.agg #[.int .u32 0,qs_])]).run P w=.ok (.slice (some ⟨w.heap.size,0,none⟩) 1 1) (w.alloc (.cells #[.int .u32 0,qs_] S.tG (0,0)))
 iG:∃ i,P.info? S.tG=some i/\i.zero=some (.agg #[.int .u32 0,qs_])/\i.size=2/\i.bytes=32
def Fa0 (w0 w:World):Prop:=qc_ (fun k=>w0.heap.size<=k) w0 w
theorem Fa0.refl (w:World):Fa0 w w:=qc_.refl _ _
theorem Fa0.kn {w0 w w':World} (h:Fa0 w0 w) (k:qc_ (fun _=>False) w w'):Fa0 w0 w':=qc_.trans h (k.mono fun _ _ h=>h.elim)
theorem Fa0.up {w0 w w':World} {X:Nat->Prop} (h:Fa0 w0 w) (k:qc_ X w w') (hX:∀ i,X i->w0.heap.size<=i):Fa0 w0 w':=qc_.trans h (k.mono fun i _ hx=>hX i hx)
theorem Fa0.cell {w0 w:World} (h:Fa0 w0 w) {b o:Nat} {v:Value} (hv:w0.cell? ⟨b,o,none⟩=some v):w.cell? ⟨b,o,none⟩=some v:=
 qc_.cell h (by have:=lt_of_cell hv;omega) hv
theorem Fa0.cells {w0 w:World} (h:Fa0 w0 w) {b o:Nat} {cs:List Value} (hv:qf_ w0 b o cs):qf_ w b o cs:=fun j c hj=>h.cell (hv j c hj)
theorem Fa0.keeps {w0 w:World} (h:Fa0 w0 w):qc_ (fun _=>False) w0 w:=qc_.mono h fun k hk hX=>by omega
theorem Fa0.of {w0 w:World} (h:qc_ (fun _=>False) w0 w):Fa0 w0 w:=h.mono fun _ _ h=>h.elim
theorem qf_.kn {w w':World} (k:qc_ (fun _=>False) w w') {b o:Nat} {cs:List Value} (hv:qf_ w b o cs):qf_ w' b o cs:=fun j c hj=>k.cell id (hv j c hj)
def RowRp {α:Type} (w:World) (sz:Nat) (El:List Value->α->Prop) (v:Value) (xs:List α):Prop:=
 (∃ base,v=.slice base 0 0/\xs=[]) \/ ∃ b o c,v=.slice (some ⟨b,o,none⟩) xs.length c/\xs.length<=c/\c<=maxLen/\∀ i x,xs[i]?=some x->∃ cs,cs.length=sz/\qf_ w b (o + i * sz) cs/\El cs x
def OcX (w:World) (X:Nat->Prop) (v:Value) (l:Bs):Prop:=(∃ base,v=.slice base 0 0/\l=[]) \/ SlRp w X v l
abbrev OcRp (w:World) (v:Value) (l:Bs):Prop:=OcX w (fun _=>False) v l
def TagRp (w:World) (cs:List Value) (p:UInt32 × Bs):Prop:=∃ v,cs=[.int .u32 (p.1.toNat:Int),v]/\OcRp w v p.2
def Tr.raw:Tr->List (UInt32 × Bs) | .mk _ _ _ _ u=>u
def TrRp (w:World):Nat->List Value->Tr->Prop
 | 0,_,_=>False
 | k + 1,cs,t=>∃ sv lv uv,cs=[.int .i64 t.num,sv,.bool t.null,lv,uv]/\OcRp w sv t.octets/\RowRp w 5 (TrRp w k) lv t.list/\RowRp w 2 (TagRp w) uv t.raw
theorem RowRp.form {α:Type} {w:World} {sz:Nat} {El:List Value->α->Prop} {v:Value} {xs:List α} (h:RowRp w sz El v xs):∃ base c,v=.slice base xs.length c/\xs.length<=c/\xs.length<=maxLen/\(xs=[] \/ ∃ b o,base=some ⟨b,o,none⟩/\∀ i x,xs[i]?=some x->∃ cs,cs.length=sz/\qf_ w b (o + i * sz) cs/\El cs x):=by
 rcases h with ⟨base,rfl,rfl⟩ | ⟨b,o,c,rfl,h1,h2,h3⟩
 ·exact ⟨base,0,rfl,Nat.le_refl _,by simp [maxLen],.inl rfl⟩
 ·exact ⟨_,c,rfl,h1,by omega,.inr ⟨b,o,rfl,h3⟩⟩
theorem RowRp.imp {α:Type} {w w':World} {sz:Nat} {El El':List Value->α->Prop} {v:Value} {xs:List α} (h:RowRp w sz El v xs) (hc:∀ b o cs,qf_ w b o cs->qf_ w' b o cs) (he:∀ cs x,El cs x->El' cs x):RowRp w' sz El' v xs:=by
 rcases h with h | ⟨b,o,c,h1,h2,h3,h4⟩
 ·exact .inl h
 ·exact .inr ⟨b,o,c,h1,h2,h3,fun i x hx=>by obtain ⟨cs,a1,a2,a3⟩:=h4 i x hx;exact ⟨cs,a1,hc _ _ _ a2,he _ _ a3⟩⟩
theorem SlRp.far {w0 w:World} (h:Fa0 w0 w) {v:Value} {l:Bs} (hs:SlRp w0 (fun _=>False) v l):SlRp w (fun _=>False) v l:=
 SlRp.mono ((hs.mono (Y:=fun k=>w0.heap.size<=k) fun k hk hX=>by omega).keep h) fun _ _ h=>h.elim
theorem OcX.form {w:World} {X:Nat->Prop} {v:Value} {l:Bs} (h:OcX w X v l):∃ base c,v=.slice base l.length c/\(l=[] \/ ∃ b o,base=some ⟨b,o,none⟩/\OctAt w b o l):=by
 rcases h with ⟨base,rfl,rfl⟩ | h
 ·exact ⟨base,0,rfl,.inl rfl⟩
 ·exact h.form
theorem OcX.keep {w w':World} {X:Nat->Prop} {v:Value} {l:Bs} (h:OcX w X v l) (hk:qc_ X w w'):OcX w' X v l:=h.imp id fun h=>h.keep hk
theorem OcX.mono {w:World} {X Y:Nat->Prop} {v:Value} {l:Bs} (h:OcX w X v l) (hy:∀ k,k < w.heap.size->Y k->X k):OcX w Y v l:=h.imp id fun h=>h.mono hy
theorem OcX.far {w0 w:World} {v:Value} {l:Bs} (hs:OcRp w0 v l) (h:Fa0 w0 w):OcRp w v l:=hs.imp id fun hs=>hs.far h
theorem TagRp.far {w0 w:World} (h:Fa0 w0 w) {cs:List Value} {p:UInt32 × Bs} (hs:TagRp w0 cs p):TagRp w cs p:=by
 obtain ⟨v,h1,h2⟩:=hs
 exact ⟨v,h1,h2.far h⟩
theorem TrRp.far {w0 w:World} (h:Fa0 w0 w):∀ {k:Nat} {cs:List Value} {t:Tr},TrRp w0 k cs t->TrRp w k cs t
 | 0,_,_,hs=>hs.elim
 | _ + 1,_,_,hs=>by
  obtain ⟨sv,lv,uv,h1,h2,h3,h4⟩:=hs
  exact ⟨sv,lv,uv,h1,h2.far h,h3.imp (fun _ _ _=>h.cells) (fun _ _ h5=>TrRp.far h h5),h4.imp (fun _ _ _=>h.cells) (fun _ _ h5=>h5.far h)⟩
theorem TrRp.up {w:World}:∀ {k m:Nat} {cs:List Value} {t:Tr},k<=m->TrRp w k cs t->TrRp w m cs t
 | 0,_,_,_,_,hs=>hs.elim
 | _ + 1,0,_,_,hm,_=>by omega
 | k + 1,m + 1,_,_,hm,hs=>by
  obtain ⟨sv,lv,uv,h1,h2,h3,h4⟩:=hs
  exact ⟨sv,lv,uv,h1,h2,h3.imp (fun _ _ _ h=>h) (fun _ _ h5=>TrRp.up (by omega) h5),h4⟩
theorem TrRp.len {w:World}:∀ {k:Nat} {cs:List Value} {t:Tr},TrRp w k cs t->cs.length=5
 | 0,_,_,hs=>hs.elim
 | _ + 1,_,_,hs=>by obtain ⟨sv,lv,uv,rfl,_⟩:=hs;rfl
theorem TrRp.zero (w:World):TrRp w 1 [.int .i64 0,qs_,.bool false,qs_,qs_] .zero:=
 ⟨qs_,qs_,qs_,rfl,.inl ⟨none,rfl,rfl⟩,.inl ⟨none,rfl,rfl⟩,.inl ⟨none,rfl,rfl⟩⟩
def SFs.len:SFs->Nat
 | .nil=>0
 | .cons _ _ _ _ _ _ _ _ r=>r.len + 1
def FsAt (w:World):SFs->Nat->Nat->Prop
 | .nil,_,_=>True
 | .cons kind lo hi nul tag df of sub r,b,o=>
  (∃ sv,qf_ w b o [.int .i64 (kind:Int),.int .i64 lo,.int .i64 hi,.int .i64 nul,.int .i64 tag,.int .i64 df,.int .i64 (of:Int),sv] /\
   ((sub=.nil/\sv=qs_) \/ ∃ b' o' c',sv=.slice (some ⟨b',o',none⟩) sub.len c'/\sub.len<=maxLen/\FsAt w sub b' o'))/\FsAt w r b (o + 8)
def FsRp (w:World) (sf:SFs) (v:Value):Prop:=(sf=.nil/\v=qs_) \/ ∃ b o c,v=.slice (some ⟨b,o,none⟩) sf.len c/\sf.len<=maxLen/\FsAt w sf b o
theorem FsAt.imp {w w':World} (hc:∀ b o cs,cs.length=8->qf_ w b o cs->qf_ w' b o cs):∀ (sf:SFs) (b o:Nat),FsAt w sf b o->FsAt w' sf b o
 | .nil,_,_,_=>trivial
 | .cons kind lo hi nul tag df of sub r,b,o,h=>by
  obtain ⟨⟨sv,h1,h2⟩,h3⟩:=h
  refine ⟨⟨sv,hc _ _ _ rfl h1,?_⟩,FsAt.imp hc r b _ h3⟩
  rcases h2 with h2 | ⟨b',o',c',a1,a2,a3⟩
  ·exact .inl h2
  ·exact .inr ⟨b',o',c',a1,a2,FsAt.imp hc sub b' o' a3⟩
theorem FsRp.far {w0 w:World} (h:Fa0 w0 w) {sf:SFs} {v:Value} (hs:FsRp w0 sf v):FsRp w sf v:=by
 rcases hs with hs | ⟨b,o,c,a1,a2,a3⟩
 ·exact .inl hs
 ·exact .inr ⟨b,o,c,a1,a2,a3.imp (fun _ _ _ _=>h.cells) sf b o⟩
theorem FsRp.form {w:World} {sf:SFs} {v:Value} (h:FsRp w sf v):∃ base c,v=.slice base sf.len c/\sf.len<=maxLen/\(sf=.nil \/ ∃ b o,base=some ⟨b,o,none⟩/\FsAt w sf b o):=by
 rcases h with ⟨rfl,rfl⟩ | ⟨b,o,c,rfl,h1,h2⟩
 ·exact ⟨none,0,rfl,by simp [SFs.len,maxLen],.inl rfl⟩
 ·exact ⟨_,c,rfl,h1,.inr ⟨b,o,rfl,h2⟩⟩
def qr_ (kind:Nat) (lo hi nul tag df:Int) (of:Nat) (sv:Value):List Value:=[.int .i64 (kind:Int),.int .i64 lo,.int .i64 hi,.int .i64 nul,.int .i64 tag,.int .i64 df,.int .i64 (of:Int),sv]
section
variable {P:Program} {S:SN}
theorem src_dst (ot:OctT P S.tSl S.tU8) {w:World} {L:Nat} {v:Value} {bs:Bs} (h:qv_ w L S.tU8 v bs):Src P 1 S.tSl v bs.length (bs.map jx_) w:=by
 rcases h with ⟨rfl,rfl⟩ | ⟨g,c,cur,rfl,_,hg,_,_,_,hat⟩
 ·exact Src.ofNil w ot.und 0
 ·refine Src.ofSlice w ot.und ⟨g,0,none⟩ _ c _ (by simp) (fun j u hj=>?_) (fun u hu=>?_)
  ·simp only [List.getElem?_map,Option.map_eq_some_iff] at hj
   obtain ⟨x,hx,rfl⟩:=hj
   rw [Addr.add_lit]
   simp [World.cell?,hg,hat j x hx]
  ·simp only [List.mem_map] at hu
   obtain ⟨x,_,rfl⟩:=hu
   rfl
theorem src_sl (ot:OctT P S.tSl S.tU8) {w:World} {X:Nat->Prop} {v:Value} {bs:Bs} (h:SlRp w X v bs):Src P 1 S.tSl v bs.length (bs.map jx_) w:=by
 rcases h with ⟨rfl,rfl⟩ | ⟨b,o,c,rfl,_,_,_,_,hat⟩
 ·exact Src.ofNil w ot.und 0
 ·refine Src.ofSlice w ot.und ⟨b,o,none⟩ _ c _ (by simp) (fun j u hj=>?_) (fun u hu=>?_)
  ·simp only [List.getElem?_map,Option.map_eq_some_iff] at hj
   obtain ⟨x,hx,rfl⟩:=hj
   rw [Addr.add_lit]
   exact hat j x hx
  ·simp only [List.mem_map] at hu
   obtain ⟨x,_,rfl⟩:=hu
   rfl
theorem src_oc (ot:OctT P S.tSl S.tU8) {w:World} {X:Nat->Prop} {v:Value} {bs:Bs} (h:OcX w X v bs):Src P 1 S.tSl v bs.length (bs.map jx_) w:=by
 rcases h with ⟨base,rfl,rfl⟩ | h
 ·cases base with
  | none=>exact Src.ofNil w ot.und 0
  | some a=>exact Src.ofSlice w ot.und a _ 0 _ (by simp) (fun j u hj=>by simp at hj) (fun u hu=>by simp at hu)
 ·exact src_sl ot h
variable {ops:Array Oper} {Q:Exit->Act->World->Prop} {r:List Oper} {n:Nat} {a:Act} {w:World} {l:List (Nat × Value)}
theorem st_app (h:St n a l) (ot:OctT P S.tSl S.tU8) {d L:Nat} {x y:Operand} {dv sv:Value} {bs ss:Bs} (hx:Hd l x dv) (hy:Hd l y sv) (hd:qv_ w L S.tU8 dv bs) (hs:Src P 1 S.tSl sv ss.length (ss.map jx_) w) (hL:L<=w.heap.size) (hlim:bs.length + ss.length<=LIM) (hdn:d < n)
  (c:∀ v w' a',Gr L S.tU8 dv w v (bs++ss) w'->St n a' ((d,v) :: l)->wpList P ops Q r a' w'):wpList P ops Q (bi (some d) .append [x,y] [S.tSl,S.tSl] S.tSl :: r) a w:=by
 obtain ⟨v,w',hrun,hg⟩:=run_append_dst (tx:=S.tSl) (ty:=S.tSl) ot hd hs hL hlim
 have hw:Region.wanted (bi (some d) .append [x,y] [S.tSl,S.tSl] S.tSl) (yielded ops a.tmps)=true:=by simp [Region.wanted,bi]
 unfold wpList
 rw [if_pos hw]
 refine .inl ?_
 unfold Oper.wp
 have:(execOp a.eval (bi (some d) .append [x,y] [S.tSl,S.tSl] S.tSl)).run P w=.ok (.value v) w':=by
  simp [execOp,bi,resolve,invoke,builtin,hx n a h,hy n a h,hrun]
 rw [this]
 exact c v w' _ hg (h.put v hdn)
theorem st_row1 (h:St n a l) (ot:OctT P S.tSl S.tU8) {d:Nat} {x:Operand} {b:UInt8} (hx:Hd l x (jx_ b)) (hdn:d < n)
  (c:∀ v a',qv_ (w.alloc (.cells #[jx_ b] S.tU8 (0,0))) w.heap.size S.tU8 v [b]->St n a' ((d,v) :: l)->wpList P ops Q r a' (w.alloc (.cells #[jx_ b] S.tU8 (0,0)))):wpList P ops Q (mk (some d) (.buildSlice S.tSl 1 #[(0,x)]) :: r) a w:=by
 refine wl_buildSlice (l:=[b]) (ps:=[(0,x)]) ot (by simp [hx n a h,prs]) (by simp) (by simp) ?_
 refine c _ _ ?_ (h.put _ hdn)
 exact .inr ⟨w.heap.size,1,#[jx_ b],rfl,Nat.le_refl _,Go.heap_alloc_new w _,by simp,by simp [maxLen],by simp,fun i x hx=>by
  cases i with
  | zero=>simp at hx;subst hx;rfl
  | succ i=>simp at hx⟩
variable {I:World->Prop} {K:Act->Prop}
theorem ju_ (h:St n a l) {d:Nat} {x:Operand} {v:Value} (hx:Hd l x v) (hd:d < n) (c:∀ a',St n a' ((d,v) :: l)->evF P I r a' K):evF P I (mk (some d) (.move x) :: r) a K:=
 ev_move (c _ (by rw [hx n a h];exact h.put v hd))
theorem se_fld (h:St n a l) {d:Nat} {x:Operand} {T k F B O off sz:Nat} {agg:Bool} (hx:Hd l x (pt B O)) (hF:jr_ P T k F off agg sz) (hd:d < n) (c:∀ a',St n a' ((d,pt B (O + off)) :: l)->evF P I r a' K) :
  evF P I (mk (some d) (.fieldAddr T x k) :: r) a K:=ev_fld (hx n a h) hF (c _ (h.put _ hd))
theorem se_load1 (h:St n a l) {d:Nat} {x:Operand} {F B O sz:Nat} {v:Value} (hx:Hd l x (pt B O)) (hF:jo_ P F false sz) (hv:∀ w,I w->w.cell? ⟨B,O,none⟩=some v) (hd:d < n) (c:∀ a',St n a' ((d,v) :: l)->evF P I r a' K) :
  evF P I (mk (some d) (.load F x) :: r) a K:=ev_load1 (hx n a h) (fun w=>hF.agg w) hv (c _ (h.put _ hd))
theorem se_loadN (h:St n a l) {d:Nat} {x:Operand} {F B O:Nat} {cs:List Value} (hx:Hd l x (pt B O)) (hF:jo_ P F true cs.length) (hv:∀ w,I w->qf_ w B O cs) (hd:d < n) (c:∀ a',St n a' ((d,.agg cs.toArray) :: l)->evF P I r a' K) :
  evF P I (mk (some d) (.load F x) :: r) a K:=by
 refine ⟨.agg cs.toArray,fun w hI=>?_,c _ (h.put _ hd)⟩
 have hl:=run_loadCells_list (P:=P) w ⟨B,O,none⟩ cs (fun j v hj=>by rw [Addr.add_lit];exact hv w hI j v hj)
 have e:=hx n a h
 simp only [pt] at e
 simp [execOp,mk,e,Instr.loadAt,Instr.sureAddr,loadVar,hF.agg w,hF.size w,hl]
theorem se_index (h:St n a l) {d:Nat} {x y:Operand} {F E b o m c i sz:Nat} {k:IntKind} (hx:Hd l x (.slice (some ⟨b,o,none⟩) m c)) (hy:Hd l y (.int k (i:Nat))) (hi:i < m) (hF:P.underlying F=some (.slice E)) (hs:∀ w,(sizeOf E).run P w=.ok sz w) (hd:d < n)
  (q:∀ a',St n a' ((d,pt b (o + i * sz)) :: l)->evF P I r a' K):evF P I (mk (some d) (.indexAddr F x y) :: r) a K:=ev_index (hx n a h) (hy n a h) hi hF hs (q _ (h.put _ hd))
theorem se_nil (h:K a):evF P I [] a K:=h
theorem sl_nil (hI:I w) (h:Q .normal a w):wpLd P I Q [] a w:=⟨hI,h⟩
theorem sl_assign (h:St n a l) (hI:I w) {d:Nat} {x:Operand} {v:Value} (hx:Hd l x v) (hd:d < n) (c:∀ a',St n a' ((d,v) :: l)->wpLd P I Q r a' w):wpLd P I Q (mk (some d) (.assign x) :: r) a w:=by
 refine ⟨hI,?_⟩
 show (mk (some d) (.assign x)).wp P a w (wpLd P I Q r) _
 unfold Oper.wp
 have:(execOp a.eval (mk (some d) (.assign x))).run P w=.ok (.value v) w:=by
  simp [execOp,mk,hx n a h]
 rw [this]
 exact c _ (h.put v hd)
theorem jp_ (h:St n a l) (hI:I w) {d f:Nat} {args:List Operand} {vs:List Value} {R:Ending->World->Prop} (hf:Ent P f) (hargs:∀ (n:Nat) (a:Act),St n a l->args.map a.eval=vs) (hc:Calls P f vs.toArray w R) (hd:d < n)
  (c:∀ e w',R e w'->∃ v,e=.returned v/\∀ a',St n a' ((d,v) :: l)->wpLd P I Q r a' w'):wpLd P I Q (cl (some d) f args :: r) a w:=by
 refine ⟨hI,?_⟩
 unfold Oper.wp
 have:(execOp a.eval (cl (some d) f args)).run P w=.ok (.enter f vs.toArray) w:=by
  have he:a.eval (.func f)=.func (.func f) #[] #[]:=rfl
  have ha:=hargs n a h
  have ha2:(args.map a.eval).toArray=vs.toArray:=by rw [ha]
  simp only [cl,execOp,mk,resolve,he,Deferred.ofValue,invoke,Sem.run_bind,Sem.run_pure,Result.andThen_ok,Array.empty_append,Array.append_empty,List.map_toArray,ha2]
  exact hf _ _
 rw [this]
 exact hc.mono fun e w' hR=>by
  obtain ⟨v,rfl,hk⟩:=c e w' hR
  exact hk _ (h.put _ hd)
theorem sl_app (h:St n a l) (hI:I w) (ot:OctT P S.tSl S.tU8) {d L:Nat} {x y:Operand} {dv sv:Value} {bs ss:Bs} (hx:Hd l x dv) (hy:Hd l y sv) (hd:qv_ w L S.tU8 dv bs) (hs:Src P 1 S.tSl sv ss.length (ss.map jx_) w) (hL:L<=w.heap.size) (hlim:bs.length + ss.length<=LIM) (hdn:d < n)
  (c:∀ v w' a',Gr L S.tU8 dv w v (bs++ss) w'->St n a' ((d,v) :: l)->wpLd P I Q r a' w'):wpLd P I Q (bi (some d) .append [x,y] [S.tSl,S.tSl] S.tSl :: r) a w:=by
 obtain ⟨v,w',hrun,hg⟩:=run_append_dst (tx:=S.tSl) (ty:=S.tSl) ot hd hs hL hlim
 refine ⟨hI,?_⟩
 unfold Oper.wp
 have:(execOp a.eval (bi (some d) .append [x,y] [S.tSl,S.tSl] S.tSl)).run P w=.ok (.value v) w':=by
  simp [execOp,bi,resolve,invoke,builtin,hx n a h,hy n a h,hrun]
 rw [this]
 exact c v w' _ hg (h.put v hdn)
theorem ndrw {l':List Oper} {R:Exit->Act->World->Prop} (loud:List Bool) (I:World->Prop) (hl:loudOf l'=loud) (h:evF P I (freesOf l' loud) a (fun af=>wpLd P I R (j1_ l' loud) af w.drew)):NWP P (.region 1 l'.toArray true) R a w:=.drw I (by rw [hl];exact h)
end
set_option maxRecDepth 4000
def ixs0:Nat->List Value->List (Nat × Value)
 | _,[]=>[]
 | i,v :: r=>(i,v) :: ixs0 (i + 1) r
theorem ixs0_lookup:∀ (l:List Value) (i j:Nat) (v:Value),(ixs0 i l).lookup j=some v->i<=j/\l[j - i]?=some v
 | [],_,_,_,h=>by cases h
 | x :: r,i,j,v,h=>by
  simp only [ixs0,List.lookup_cons] at h
  by_cases hj:j=i
  ·subst hj
   simp only [beq_self_eq_true] at h
   exact ⟨Nat.le_refl _,by simpa using h⟩
  ·have:(j == i)=false:=by simp [hj]
   rw [this] at h
   obtain ⟨h1,h2⟩:=ixs0_lookup r (i + 1) j v h
   refine ⟨by omega,?_⟩
   rw [show j - i=(j - (i + 1)) + 1 by omega]
   simpa using h2
section
variable {P:Program} {S:SN}
theorem z0_ (hm:P.follows .mixedOrders=true) {f ntmps:Nat} {res:List Nat} {c:Code} {w:World} {RR:Ending->World->Prop} (hfn:FnIs P f ntmps res c) (hl:res.length<=2) (args:List Value) (hnt:args.length<=ntmps)
  (h:∀ a,St ntmps a (ixs0 0 args)->NWP P c (Rt (fun a' w'=>a'.defers=[]/\RR (.returned (js_ res a')) w') (fun a' w'=>a'.defers=[]/\RR (.returned (js_ res a')) w')) a w):Calls P f args.toArray w RR:=
 callsA hm hfn hl args hnt fun a harg hs hd=>h a ⟨hs,hd,fun i v hi=>by
  obtain ⟨_,h2⟩:=ixs0_lookup args 0 i v hi
  exact harg i v (by simpa using h2)⟩
theorem ret1 {n t:Nat} {a:Act} {w:World} {l:List (Nat × Value)} {v:Value} {RR:Ending->World->Prop} (h:St n a l) (hv:l.lookup t=some v) (hR:RR (.returned v) w):a.defers=[]/\RR (.returned (js_ [t] a)) w:=
 ⟨h.defers,by rw [zf_,h.get t v hv];exact hR⟩
theorem wid_calls (T:RefT P S) (hfn:FnIs P S.fWid 11 [2] (csWd S)) (kind:Nat) (w:World):Calls P S.fWid [.int .i64 (kind:Int)].toArray w fun e w'=>e=.returned (.int .i64 (jj_ kind:Int))/\w'=w:=by
 refine z0_ T.mixed hfn (by simp) _ (by simp) fun a h=>?_
 unfold csWd
 refine qt_ (nrg (qd_ h .i (by omega) fun a h=>wpList_nil ?_))
 refine qt_ (qt_ (nrg (qe_ h (.t rfl) (by omega) fun a h=>wpList_nil ?_)))
 refine .block (qt_ (nrg (q2_ h rfl (.t rfl) .i (by omega) fun a h=>qd_ h (.t rfl) (by omega) fun a h=>wpList_nil ?_)))
 refine ja_ h rfl (fun hb=>?_) (fun hb=>?_)
 ·refine qt_ (nrg (qd_ h .i (by omega) fun a h=>wpList_nil (.ret ?_)))
  have hk:kind=1:=by simp [qz_] at hb;omega
  refine ret1 (RR:=fun e w'=>e=.returned (.int .i64 (jj_ kind:Int))/\w'=w) h rfl ⟨?_,rfl⟩
  simp [jj_,hk]
 have h1:kind ≠ 1:=by simp [qz_] at hb;omega
 have rest:∀ (b:Bool) (a:Act) (l:List (Nat × Value)),St 11 a l->l.lookup 3=some (.int .i64 (kind:Int))->l.lookup 6=some (.bool b)->b=decide (kind=2 \/ kind=5) ->
   NWP P (.cond (tm 6) (.seq (rg (owd_6 S)) .ret) (.seq (rg (owd_7 S)) (.cond (tm 9) (.seq (rg (owd_8 S)) .ret) .skip))) (Exit.inBlock 0 (Exit.then (NWP P (.seq (rg (owd_9 S)) .ret) (Rt (fun a' w'=>a'.defers=[]/\Ending.returned (js_ [2] a')=.returned (.int .i64 (jj_ kind:Int))/\w'=w) (fun a' w'=>a'.defers=[]/\Ending.returned (js_ [2] a')=.returned (.int .i64 (jj_ kind:Int))/\w'=w))) (Rt (fun a' w'=>a'.defers=[]/\Ending.returned (js_ [2] a')=.returned (.int .i64 (jj_ kind:Int))/\w'=w) (fun a' w'=>a'.defers=[]/\Ending.returned (js_ [2] a')=.returned (.int .i64 (jj_ kind:Int))/\w'=w)))) a w:=by
  intro b a l h h3 h6 hb6
  refine ja_ h h6 (fun hb=>?_) (fun hb=>?_)
  ·refine qt_ (nrg (qd_ h .i (by omega) fun a h=>wpList_nil (.ret ?_)))
   refine ret1 (RR:=fun e w'=>e=.returned (.int .i64 (jj_ kind:Int))/\w'=w) h rfl ⟨?_,rfl⟩
   rw [hb] at hb6
   have hk:kind=2 \/ kind=5:=by simpa using hb6.symm
   simp [jj_,h1,hk]
  ·rw [hb] at hb6
   have hk:¬ (kind=2 \/ kind=5):=by simpa using hb6.symm
   refine qt_ (nrg (q2_ h rfl (.t h3) .i (by omega) fun a h=>qd_ h (.t rfl) (by omega) fun a h=>wpList_nil ?_))
   refine ja_ h rfl (fun hb=>?_) (fun hb=>?_)
   ·refine qt_ (nrg (qd_ h .i (by omega) fun a h=>wpList_nil (.ret ?_)))
    have hk3:kind=3:=by simp [qz_] at hb;omega
    refine ret1 (RR:=fun e w'=>e=.returned (.int .i64 (jj_ kind:Int))/\w'=w) h rfl ⟨?_,rfl⟩
    simp [jj_,hk3]
   ·have hk3:kind ≠ 3:=by simp [qz_] at hb;omega
    refine .skip (qt_ (nrg (qd_ h .i (by omega) fun a h=>wpList_nil (.ret ?_))))
    refine ret1 (RR:=fun e w'=>e=.returned (.int .i64 (jj_ kind:Int))/\w'=w) h rfl ⟨?_,rfl⟩
    simp [jj_,h1,hk,hk3]
 refine qt_ (qt_ (nrg (q2_ h rfl (.t rfl) .i (by omega) fun a h=>qd_ h (.t rfl) (by omega) fun a h=>wpList_nil ?_)))
 refine ja_ h rfl (fun hb=>?_) (fun hb=>?_)
 ·have hk:kind=2:=by simp [qz_] at hb;omega
  exact .skip (rest _ a _ h rfl rfl (by simp [qz_,hk]))
 ·have hk:kind ≠ 2:=by simp [qz_] at hb;omega
  refine nrg (q2_ h rfl (.t rfl) .i (by omega) fun a h=>qd_ h (.t rfl) (by omega) fun a h=>wpList_nil ?_)
  refine rest _ a _ h rfl rfl ?_
  simp only [qz_]
  exact decide_eq_decide.2 (by omega)
end
end Go.Proofs.Ytbgklecbmhaadaa.Kx

namespace Go.Proofs.Ytbgklecbmhaadaa.Kx
open Go
set_option maxRecDepth 4000
section
variable {P:Program} {S:SN}
section
variable {ops:Array Oper} {Q:Exit->Act->World->Prop} {r:List Oper} {n:Nat} {a:Act} {w:World} {l:List (Nat × Value)}
theorem st_min (h:St n a l) {d t:Nat} {x y:Operand} {k:IntKind} {p q:Int} (hx:Hd l x (.int k p)) (hy:Hd l y (.int k q)) (hd:d < n) (c:∀ a',St n a' ((d,.int k (if q < p then q else p)) :: l)->wpList P ops Q r a' w) :
  wpList P ops Q (bi (some d) .min [x,y] [t,t] t :: r) a w:=by
 have hw:Region.wanted (bi (some d) .min [x,y] [t,t] t) (yielded ops a.tmps)=true:=by simp [Region.wanted,bi]
 unfold wpList
 rw [if_pos hw]
 refine .inl ?_
 unfold Oper.wp
 have:(execOp a.eval (bi (some d) .min [x,y] [t,t] t)).run P w=.ok (.value (.int k (if q < p then q else p))) w:=by
  simp [execOp,bi,resolve,invoke,builtin,hx n a h,hy n a h,Builtin.min_,Builtin.min2]
 rw [this]
 exact c _ (h.put _ hd)
theorem st_max (h:St n a l) {d t:Nat} {x y:Operand} {k:IntKind} {p q:Int} (hx:Hd l x (.int k p)) (hy:Hd l y (.int k q)) (hd:d < n) (c:∀ a',St n a' ((d,.int k (if p < q then q else p)) :: l)->wpList P ops Q r a' w) :
  wpList P ops Q (bi (some d) .max [x,y] [t,t] t :: r) a w:=by
 have hw:Region.wanted (bi (some d) .max [x,y] [t,t] t) (yielded ops a.tmps)=true:=by simp [Region.wanted,bi]
 unfold wpList
 rw [if_pos hw]
 refine .inl ?_
 unfold Oper.wp
 have:(execOp a.eval (bi (some d) .max [x,y] [t,t] t)).run P w=.ok (.value (.int k (if p < q then q else p))) w:=by
  simp [execOp,bi,resolve,invoke,builtin,hx n a h,hy n a h,Builtin.max_,Builtin.max2]
 rw [this]
 exact c _ (h.put _ hd)
theorem st_bi (h:St n a l) {d ty:Nat} {b:Builtin} {args:List Operand} {tys:List Nat} {v:Value} {w':World} (hrun:(execOp a.eval (bi (some d) b args tys ty)).run P w=.ok (.value v) w') (hd:d < n) (c:∀ a',St n a' ((d,v) :: l)->wpList P ops Q r a' w') :
  wpList P ops Q (bi (some d) b args tys ty :: r) a w:=by
 have hw:Region.wanted (bi (some d) b args tys ty) (yielded ops a.tmps)=true:=by simp [Region.wanted,bi]
 unfold wpList
 rw [if_pos hw]
 refine .inl ?_
 unfold Oper.wp
 rw [hrun]
 exact c _ (h.put _ hd)
theorem run_sliceHi {F E m c k sz:Nat} {base:Option Addr} {x y:Operand} {d:Option Nat} (hx:a.eval x=.slice base m c) (hy:a.eval y=.int .i64 (k:Int)) (hk:k<=c) (hb:base=none->c=0) (hF:P.underlying F=some (.slice E)) (hs:∀ w,(sizeOf E).run P w=.ok sz w) :
  (execOp a.eval (mk d (.slice F x none (some y) none))).run P w=.ok (.value (.slice base k c)) w:=by
 have hk0:¬ ((k:Int) < 0):=by omega
 cases base with
 | none=>
  obtain rfl:=hb rfl
  obtain rfl:k=0:=by omega
  simp [execOp,mk,hx,hy,Instr.sliceAt,Instr.slice,run_underlying hF,Instr.sliceBounds,Instr.sliceBound,asIntOf,hs]
 | some b=>
  by_cases hc:c=0
  ·subst hc
   obtain rfl:k=0:=by omega
   simp [execOp,mk,hx,hy,Instr.sliceAt,Instr.slice,run_underlying hF,Instr.sliceBounds,Instr.sliceBound,asIntOf,hs]
  ·simp [execOp,mk,hx,hy,Instr.sliceAt,Instr.slice,run_underlying hF,Instr.sliceBounds,Instr.sliceBound,asIntOf,hs,hk,Addr.add]
theorem st_sliceHi (h:St n a l) {d F E m c k sz:Nat} {base:Option Addr} {x y:Operand} (hx:Hd l x (.slice base m c)) (hy:Hd l y (.int .i64 (k:Int))) (hk:k<=c) (hb:base=none->c=0) (hF:P.underlying F=some (.slice E)) (hs:∀ w,(sizeOf E).run P w=.ok sz w) (hd:d < n)
  (q:∀ a',St n a' ((d,.slice base k c) :: l)->wpList P ops Q r a' w):wpList P ops Q (mk (some d) (.slice F x none (some y) none) :: r) a w:=
 qp_ (run_sliceHi (hx n a h) (hy n a h) hk hb hF hs) (q _ (h.put _ hd))
end
section
variable {ops:Array Oper} {Q:Exit->Act->World->Prop} {r:List Oper} {n:Nat} {a:Act} {w:World} {l:List (Nat × Value)}
theorem sg_move (h:St n a l) {d j jd:Nat} {x:Operand} {b:Bool} {v:Value} {o:Oper} (ho:ops[j]?=some o) (hod:o.dst=some jd) (hj:l.lookup jd=some (.bool b)) (hjn:jd < n) (hx:Hd l x v) (hd:d < n) (c:∀ a',St n a' ((d,v) :: l)->wpList P ops Q r a' w) :
  wpList P ops Q (gd d (.move x) j b :: r) a w:=st_gd h ho hod hj hjn (by simp [execOp,mk,hx n a h]) hd c
theorem sg_fld (h:St n a l) {d j jd:Nat} {x:Operand} {b:Bool} {o:Oper} {TT k F B O off sz:Nat} {agg:Bool} (ho:ops[j]?=some o) (hod:o.dst=some jd) (hj:l.lookup jd=some (.bool b)) (hjn:jd < n) (hx:Hd l x (pt B O)) (hF:jr_ P TT k F off agg sz) (hd:d < n) (c:∀ a',St n a' ((d,pt B (O + off)) :: l)->wpList P ops Q r a' w) :
  wpList P ops Q (gd d (.fieldAddr TT x k) j b :: r) a w:=by
 obtain ⟨fs,f,h1,h2,h3,h4⟩:=hF.fld
 obtain ⟨q,rfl⟩:∃ q,sz=q + 1:=⟨sz - 1,by have:=hF.pos;omega⟩
 have e:=hx n a h
 simp only [pt] at e
 have hn:∀ w,(sizeOf f.type).run P w=.ok (q + 1) w:=fun w=>by rw [h4];exact hF.var.size w
 refine st_gd h ho hod hj hjn ?_ hd c
 simp [execOp,mk,e,Instr.fieldAt,run_underlying h1,h2,h3,fieldPlace,hn,Instr.sureAddr,Addr.add_lit,pt]
theorem sg_load1 (h:St n a l) {d j jd:Nat} {x:Operand} {b:Bool} {o:Oper} {F B O sz:Nat} {v:Value} (ho:ops[j]?=some o) (hod:o.dst=some jd) (hj:l.lookup jd=some (.bool b)) (hjn:jd < n) (hx:Hd l x (pt B O)) (hF:jo_ P F false sz) (hv:w.cell? ⟨B,O,none⟩=some v) (hd:d < n) (c:∀ a',St n a' ((d,v) :: l)->wpList P ops Q r a' w) :
  wpList P ops Q (gd d (.load F x) j b :: r) a w:=by
 have e:=hx n a h
 simp only [pt] at e
 refine st_gd h ho hod hj hjn ?_ hd c
 simp [execOp,mk,e,Instr.loadAt,Instr.sureAddr,loadVar,hF.agg w,load,hv,Sem.run]
theorem sg_cmp (h:St n a l) {d j jd:Nat} {x y:Operand} {b:Bool} {o:Oper} {op:BinOp} {T:Nat} {k:IntKind} {p q:Int} (ho:ops[j]?=some o) (hod:o.dst=some jd) (hj:l.lookup jd=some (.bool b)) (hjn:jd < n) (hc:isCmp op=true) (hx:Hd l x (.int k p)) (hy:Hd l y (.int k q)) (hd:d < n) (c:∀ a',St n a' ((d,.bool (qz_ op p q)) :: l)->wpList P ops Q r a' w) :
  wpList P ops Q (gd d (.binOp op T x y 0) j b :: r) a w:=by
 refine st_gd h ho hod hj hjn ?_ hd c
 have he:(eqGuard op T x y (.int k p) (.int k q)).run P w=.ok () w:=by
  unfold eqGuard
  cases op <;> simp
 simp only [execOp,mk,hx n a h,hy n a h,Sem.run_bind,he,Result.andThen_ok,run_cmp (cmpB_ok hc p q),Sem.run_pure]
theorem sg_pick (h:St n a l) {d j jd:Nat} {x y z:Operand} {b b':Bool} {u v:Value} {o:Oper} (ho:ops[j]?=some o) (hod:o.dst=some jd) (hj:l.lookup jd=some (.bool b)) (hjn:jd < n) (hx:Hd l x (.bool b')) (hy:Hd l y u) (hz:Hd l z v) (hd:d < n) (c:∀ a',St n a' ((d,if b' then u else v) :: l)->wpList P ops Q r a' w) :
  wpList P ops Q (gd d (.pick x y z) j b :: r) a w:=by
 refine st_gd h ho hod hj hjn ?_ hd c
 cases b' <;> simp [execOp,mk,hx n a h,hy n a h,hz n a h,asBool]
theorem sg_none (h:St n a l) {d j jd:Nat} {op:Op} {b:Bool} {o:Oper} (ho:ops[j]?=some o) (hod:o.dst=some jd) (hj:l.lookup jd=some undef) (hjn:jd < n) (hd:d < n)
  (c:∀ a',St n a' ((d,undef) :: l)->wpList P ops Q r a' w):wpList P ops Q (gd d op j b :: r) a w:=by
 have hy:yielded ops a.tmps j=none:=by
  have:a.tmps[jd]?=some undef:=by
   have h1:=h.get _ _ hj
   rw [<- h1]
   simp [Act.get,h.size,hjn]
  simp [yielded,ho,hod,this,undef]
 unfold wpList gd
 rw [if_neg (by simp [Region.wanted,hy])]
 exact c _ (h.put _ hd)
end
theorem min_most (m:Nat):(if (32767:Int) < (m:Int) then (32767:Int) else (m:Int))=((min m zh_:Nat):Int):=by simp only [zh_];split <;> omega
theorem wh_calls (T:RefT P S) (hfn:FnIs P S.fWhole 8 [2] (csWh S)) {w:World} {X:Nat->Prop} {v:Value} {bs:Bs} (hv:OcX w X v bs) :
  Calls P S.fWhole [v].toArray w fun e w'=>∃ v',e=.returned v'/\OcX w X v' (bs.take zh_)/\w'=w:=by
 have hform:∃ base c,v=.slice base bs.length c/\bs.length<=c/\(base=none->c=0)/\OcX w X (.slice base (min bs.length zh_) c) (bs.take zh_):=by
  rcases hv with ⟨base,rfl,rfl⟩ | ⟨rfl,rfl⟩ | ⟨b,o,c,rfl,h1,h2,h3,h4,h5⟩
  ·exact ⟨base,0,rfl,Nat.le_refl _,fun _=>rfl,.inl ⟨base,by simp,by simp⟩⟩
  ·exact ⟨none,0,rfl,Nat.le_refl _,fun _=>rfl,.inl ⟨none,by simp,by simp⟩⟩
  ·refine ⟨_,c,rfl,h3,(fun h=>by cases h),.inr <| .inr ⟨b,o,c,by rw [List.length_take,Nat.min_comm],h1,h2,by rw [List.length_take];omega,h4,fun i x hx=>h5 i x ?_⟩⟩
   rw [List.getElem?_take] at hx
   split at hx
   ·exact hx
   ·cases hx
 obtain ⟨base,c,rfl,hc,hb,hr⟩:=hform
 refine z0_ T.mixed hfn (by simp) _ (by simp) fun a h=>?_
 unfold csWh
 refine qt_ (nrg (qd_ h .c (by omega) fun a h=>wpList_nil ?_))
 refine qt_ (nrg (qe_ h (.t rfl) (by omega) fun a h=>qe_ h (.t rfl) (by omega) fun a h=>zd_ h (.t rfl) T.oct.und (by omega) fun a h=>st_min h (.t rfl) .i (by omega) fun a h=>?_))
 rw [min_most] at h
 refine st_sliceHi h (.t rfl) (.t rfl) (by omega) hb T.oct.und T.vU8.size (by omega) fun a h=>qd_ h (.t rfl) (by omega) fun a h=>wpList_nil (.ret ?_)
 exact ret1 (RR:=fun e w'=>∃ v',e=.returned v'/\OcX w X v' (bs.take zh_)/\w'=w) h rfl ⟨_,rfl,hr,rfl⟩
theorem th_calls (T:RefT P S) (hfn:FnIs P S.fThings 8 [2] (csTh S)) {α:Type} {w:World} {El:List Value->α->Prop} {v:Value} {xs:List α} (hv:RowRp w 5 El v xs) :
  Calls P S.fThings [v].toArray w fun e w'=>∃ v',e=.returned v'/\RowRp w 5 El v' (xs.take zh_)/\w'=w:=by
 have hform:∃ base c,v=.slice base xs.length c/\xs.length<=c/\(base=none->c=0)/\RowRp w 5 El (.slice base (min xs.length zh_) c) (xs.take zh_):=by
  rcases hv with ⟨base,rfl,rfl⟩ | ⟨b,o,c,rfl,h3,h4,h5⟩
  ·exact ⟨base,0,rfl,Nat.le_refl _,fun _=>rfl,.inl ⟨base,by simp,by simp⟩⟩
  ·refine ⟨_,c,rfl,h3,(fun h=>by cases h),.inr ⟨b,o,c,by rw [List.length_take,Nat.min_comm],by rw [List.length_take];omega,h4,fun i x hx=>h5 i x ?_⟩⟩
   rw [List.getElem?_take] at hx
   split at hx
   ·exact hx
   ·cases hx
 obtain ⟨base,c,rfl,hc,hb,hr⟩:=hform
 refine z0_ T.mixed hfn (by simp) _ (by simp) fun a h=>?_
 unfold csTh
 refine qt_ (nrg (qd_ h .c (by omega) fun a h=>wpList_nil ?_))
 refine qt_ (nrg (qe_ h (.t rfl) (by omega) fun a h=>qe_ h (.t rfl) (by omega) fun a h=>zd_ h (.t rfl) T.dTs (by omega) fun a h=>st_min h (.t rfl) .i (by omega) fun a h=>?_))
 rw [min_most] at h
 refine st_sliceHi h (.t rfl) (.t rfl) (by omega) hb T.dTs T.vT.size (by omega) fun a h=>qd_ h (.t rfl) (by omega) fun a h=>wpList_nil (.ret ?_)
 exact ret1 (RR:=fun e w'=>∃ v',e=.returned v'/\RowRp w 5 El v' (xs.take zh_)/\w'=w) h rfl ⟨_,rfl,hr,rfl⟩
theorem box_cell (w:World) (cs:List Value) (T:Nat) {o:Nat} {v:Value} (h:cs[o]?=some v):(w.alloc (.cells cs.toArray T (0,0))).cell? ⟨w.heap.size,0 + o,none⟩=some v:=by
 have:=qk_ w (.cells cs.toArray T (0,0))
 simp only [World.cell?,this,Option.isSome_none,Bool.false_eq_true,if_false,Nat.zero_add,List.getElem?_toArray,h]
theorem jn_ (w:World) (cs:List Value) (T:Nat):qf_ (w.alloc (.cells cs.toArray T (0,0))) w.heap.size 0 cs:=fun _j _c hj=>box_cell w cs T hj
theorem qf_.at {w:World} {b o j:Nat} {cs:List Value} {v:Value} (h:qf_ w b o cs) (hj:cs[j]?=some v):w.cell? ⟨b,o + j,none⟩=some v:=h j v hj
theorem has_calls (T:RefT P S) (hfn:FnIs P S.fHas 20 [4] (csHs S)) (kind:Nat) (lo hi nul tag df:Int) (of:Nat) (sv:Value) (ver:Int) (w:World) :
  Calls P S.fHas [.agg (qr_ kind lo hi nul tag df of sv).toArray,.int .i64 ver].toArray w fun e w'=>e=.returned (.bool (sHas lo hi ver))/\qc_ (fun _=>False) w w':=by
 refine z0_ T.mixed hfn (by simp) _ (by simp) fun a h=>?_
 unfold csHs
 refine qt_ (nrg (st_box h (.t rfl) (by omega) fun a h=>qd_ h .c (by omega) fun a h=>wpList_nil ?_))
 have hk:qc_ (fun _=>False) w (w.alloc (.cells (qr_ kind lo hi nul tag df of sv).toArray S.tF (0,0))):=qc_.alloc _ _ _
 have hc:=jn_ w (qr_ kind lo hi nul tag df of sv) S.tF
 generalize w.alloc (.cells (qr_ kind lo hi nul tag df of sv).toArray S.tF (0,0))=w1 at hk hc ⊢
 refine qt_ (nrg ?_)
 refine q1_ h (.t rfl) T.f1 (by omega) fun a h=>qu_ h (.t rfl) T.f1.var (hc.at (j:=1) rfl) (by omega) fun a h=>qe_ h (.t rfl) (by omega) fun a h=>q2_ h rfl (.t rfl) (.t rfl) (by omega) fun a h=>qe_ h (.t rfl) (by omega) fun a h=>?_
 have fin:∀ (a:Act) (l:List (Nat × Value)) (b:Bool),St 20 a l->l.lookup 4=some (.bool b)->b=sHas lo hi ver->NWP P .ret (Rt (fun a' w'=>a'.defers=[]/\Ending.returned (js_ [4] a')=.returned (.bool (sHas lo hi ver))/\qc_ (fun _=>False) w w') (fun a' w'=>a'.defers=[]/\Ending.returned (js_ [4] a')=.returned (.bool (sHas lo hi ver))/\qc_ (fun _=>False) w w')) a w1:=fun a l b h h4 hb=>
  .ret (ret1 (RR:=fun e w'=>e=.returned (.bool (sHas lo hi ver))/\qc_ (fun _=>False) w w') h h4 ⟨by rw [hb],hk⟩)
 cases hb1:qz_ .leq lo ver with
 | false=>
  rw [hb1] at h
  refine qy_ h rfl rfl rfl (by omega) (by simp) (by omega) fun a h=>qy_ h rfl rfl rfl (by omega) (by simp) (by omega) fun a h=>qy_ h rfl rfl rfl (by omega) (by simp) (by omega) fun a h=>qy_ h rfl rfl rfl (by omega) (by simp) (by omega) fun a h=>?_
  refine sg_none h rfl rfl rfl (by omega) (by omega) fun a h=>sg_none h rfl rfl rfl (by omega) (by omega) fun a h=>sg_none h rfl rfl rfl (by omega) (by omega) fun a h=>sg_none h rfl rfl rfl (by omega) (by omega) fun a h=>?_
  refine qy_ h rfl rfl rfl (by omega) (by simp) (by omega) fun a h=>jt_ h (.t rfl) (.t rfl) .c (by omega) fun a h=>qd_ h (.t rfl) (by omega) fun a h=>wpList_nil (fin a _ _ h rfl ?_)
  simp only [qz_,decide_eq_false_iff_not] at hb1
  simp [sHas,hb1]
 | true=>
  rw [hb1] at h
  refine sg_fld h rfl rfl rfl (by omega) (.t rfl) T.f2 (by omega) fun a h=>sg_load1 h rfl rfl rfl (by omega) (.t rfl) T.f2.var (hc.at (j:=2) rfl) (by omega) fun a h=>sg_cmp h rfl rfl rfl (by omega) rfl (.t rfl) .i (by omega) fun a h=>sg_move h rfl rfl rfl (by omega) (.t rfl) (by omega) fun a h=>?_
  cases hb2:qz_ .lss hi 0 with
  | true=>
   rw [hb2] at h
   refine qy_ h rfl rfl rfl (by omega) (by simp) (by omega) fun a h=>qy_ h rfl rfl rfl (by omega) (by simp) (by omega) fun a h=>qy_ h rfl rfl rfl (by omega) (by simp) (by omega) fun a h=>qy_ h rfl rfl rfl (by omega) (by simp) (by omega) fun a h=>?_
   refine sg_pick h rfl rfl rfl (by omega) (.t rfl) .c (.t rfl) (by omega) fun a h=>jt_ h (.t rfl) (.t rfl) .c (by omega) fun a h=>qd_ h (.t rfl) (by omega) fun a h=>wpList_nil (fin a _ _ h rfl ?_)
   simp only [qz_,decide_eq_true_eq] at hb1 hb2
   simp [sHas,hb1,hb2]
  | false=>
   rw [hb2] at h
   refine sg_move h rfl rfl rfl (by omega) (.t rfl) (by omega) fun a h=>sg_fld h rfl rfl rfl (by omega) (.t rfl) T.f2 (by omega) fun a h=>sg_load1 h rfl rfl rfl (by omega) (.t rfl) T.f2.var (hc.at (j:=2) rfl) (by omega) fun a h=>sg_cmp h rfl rfl rfl (by omega) rfl (.t rfl) (.t rfl) (by omega) fun a h=>?_
   refine sg_pick h rfl rfl rfl (by omega) (.t rfl) .c (.t rfl) (by omega) fun a h=>jt_ h (.t rfl) (.t rfl) .c (by omega) fun a h=>qd_ h (.t rfl) (by omega) fun a h=>wpList_nil (fin a _ _ h rfl ?_)
   simp only [qz_,decide_eq_true_eq,decide_eq_false_iff_not] at hb1 hb2
   simp [sHas,hb1,hb2,qz_]
theorem null_calls (T:RefT P S) (_vB:jo_ P S.tB false 1) (hfn:FnIs P S.fNull 20 [6] (csNu S)) (kind:Nat) (lo hi nul tag df:Int) (of:Nat) (sv:Value) (ver:Int) (nm:Int) (tn:Bool) (x1 x3 x4:Value) (w:World) :
  Calls P S.fNull [.agg (qr_ kind lo hi nul tag df of sv).toArray,.int .i64 ver,.agg [.int .i64 nm,x1,.bool tn,x3,x4].toArray].toArray w fun e w'=>e=.returned (.bool (tn && sNul nul ver))/\qc_ (fun _=>False) w w':=by
 refine z0_ T.mixed hfn (by simp) _ (by simp) fun a h=>?_
 unfold csNu
 refine qt_ (nrg (st_box h (.t rfl) (by omega) fun a h=>?_))
 have hk:qc_ (fun _=>False) w (w.alloc (.cells (qr_ kind lo hi nul tag df of sv).toArray S.tF (0,0))):=qc_.alloc _ _ _
 have hc:=jn_ w (qr_ kind lo hi nul tag df of sv) S.tF
 generalize w.alloc (.cells (qr_ kind lo hi nul tag df of sv).toArray S.tF (0,0))=w1 at hk hc ⊢
 refine st_box h (.t rfl) (by omega) fun a h=>qd_ h .c (by omega) fun a h=>wpList_nil ?_
 have hk2:qc_ (fun _=>False) w1 (w1.alloc (.cells [.int .i64 nm,x1,.bool tn,x3,x4].toArray S.tT (0,0))):=qc_.alloc _ _ _
 have ht:=jn_ w1 [.int .i64 nm,x1,.bool tn,x3,x4] S.tT
 generalize w1.alloc (.cells [.int .i64 nm,x1,.bool tn,x3,x4].toArray S.tT (0,0))=w2 at hk2 ht ⊢
 have hc:=qf_.kn hk2 hc
 have hk:=hk.trans hk2
 refine qt_ (nrg ?_)
 have fin:∀ (a:Act) (l:List (Nat × Value)) (b:Bool),St 20 a l->l.lookup 6=some (.bool b)->b=(tn && sNul nul ver)->NWP P .ret (Rt (fun a' w'=>a'.defers=[]/\Ending.returned (js_ [6] a')=.returned (.bool (tn && sNul nul ver))/\qc_ (fun _=>False) w w') (fun a' w'=>a'.defers=[]/\Ending.returned (js_ [6] a')=.returned (.bool (tn && sNul nul ver))/\qc_ (fun _=>False) w w')) a w2:=fun a l b h h4 hb=>
  .ret (ret1 (RR:=fun e w'=>e=.returned (.bool (tn && sNul nul ver))/\qc_ (fun _=>False) w w') h h4 ⟨by rw [hb],hk⟩)
 refine q1_ h (.t rfl) T.t2 (by omega) fun a h=>qu_ h (.t rfl) T.t2.var (ht.at (j:=2) rfl) (by omega) fun a h=>qe_ h (.t rfl) (by omega) fun a h=>?_
 cases tn with
 | false=>
  refine qy_ h rfl rfl rfl (by omega) (by simp) (by omega) fun a h=>qy_ h rfl rfl rfl (by omega) (by simp) (by omega) fun a h=>qy_ h rfl rfl rfl (by omega) (by simp) (by omega) fun a h=>?_
  refine jt_ h (.t rfl) (.t rfl) .c (by omega) fun a h=>qe_ h (.t rfl) (by omega) fun a h=>?_
  refine qy_ h rfl rfl rfl (by omega) (by simp) (by omega) fun a h=>qy_ h rfl rfl rfl (by omega) (by simp) (by omega) fun a h=>qy_ h rfl rfl rfl (by omega) (by simp) (by omega) fun a h=>qy_ h rfl rfl rfl (by omega) (by simp) (by omega) fun a h=>?_
  exact jt_ h (.t rfl) (.t rfl) .c (by omega) fun a h=>qd_ h (.t rfl) (by omega) fun a h=>wpList_nil (fin a _ _ h rfl rfl)
 | true=>
  refine sg_fld h rfl rfl rfl (by omega) (.t rfl) T.f3 (by omega) fun a h=>sg_load1 h rfl rfl rfl (by omega) (.t rfl) T.f3.var (hc.at (j:=3) rfl) (by omega) fun a h=>sg_cmp h rfl rfl rfl (by omega) rfl (.t rfl) .i (by omega) fun a h=>?_
  refine jt_ h (.t rfl) (.t rfl) .c (by omega) fun a h=>qe_ h (.t rfl) (by omega) fun a h=>?_
  cases hb:qz_ .geq nul 0 with
  | false=>
   rw [hb] at h
   refine qy_ h rfl rfl rfl (by omega) (by simp) (by omega) fun a h=>qy_ h rfl rfl rfl (by omega) (by simp) (by omega) fun a h=>qy_ h rfl rfl rfl (by omega) (by simp) (by omega) fun a h=>qy_ h rfl rfl rfl (by omega) (by simp) (by omega) fun a h=>?_
   refine jt_ h (.t rfl) (.t rfl) .c (by omega) fun a h=>qd_ h (.t rfl) (by omega) fun a h=>wpList_nil (fin a _ _ h rfl ?_)
   simp only [qz_,decide_eq_false_iff_not] at hb
   simp [sNul,hb]
  | true=>
   rw [hb] at h
   refine sg_move h rfl rfl rfl (by omega) (.t rfl) (by omega) fun a h=>sg_fld h rfl rfl rfl (by omega) (.t rfl) T.f3 (by omega) fun a h=>sg_load1 h rfl rfl rfl (by omega) (.t rfl) T.f3.var (hc.at (j:=3) rfl) (by omega) fun a h=>sg_cmp h rfl rfl rfl (by omega) rfl (.t rfl) (.t rfl) (by omega) fun a h=>?_
   refine jt_ h (.t rfl) (.t rfl) .c (by omega) fun a h=>qd_ h (.t rfl) (by omega) fun a h=>wpList_nil (fin a _ _ h rfl ?_)
   simp only [qz_,decide_eq_true_eq] at hb
   simp [sNul,hb,qz_]
end
end Go.Proofs.Ytbgklecbmhaadaa.Kx

namespace Go.Proofs.Ytbgklecbmhaadaa.Kx
open Go
set_option maxRecDepth 4000
theorem uvarAux_step {f x:Nat} (h:127 < x):j4_ (f + 1) x=UInt8.ofNat (x % 128 + 128) :: j4_ f (x / 128):=by
 simp only [j4_]
 rw [if_neg (by omega)]
theorem uvarAux_last {f x:Nat} (h:x<=127):j4_ f x=[UInt8.ofNat x]:=by
 cases f with
 | zero=>rfl
 | succ f=>simp only [j4_];rw [if_pos (by omega)]
theorem uvarAux_len:∀ (f x:Nat),(j4_ f x).length<=f + 1
 | 0,_=>by simp [j4_]
 | f + 1,x=>by
  have:=uvarAux_len f (x / 128)
  simp only [j4_]
  split <;> simp <;> omega
section
variable {P:Program} {S:SN}
section
variable {ops:Array Oper} {Q:Exit->Act->World->Prop} {r:List Oper} {n:Nat} {a:Act} {w:World} {l:List (Nat × Value)}
theorem run_shr2 {k k2:IntKind} {A:Nat} {x:Int} {s:Nat} (hs:s<=k.bits) (w:World):(binOp .shr A (.int k x) (.int k2 (s:Int))).run P w=.ok (.int k (x / 2 ^ s)) w:=by
 have h1:¬ ((s:Int) < 0):=by omega
 have h2:min s k.bits=s:=by omega
 have h3:(0:Int)<=2 ^ s:=by
  have:=Int.pow_pos (n:=2) (m:=s) (by omega)
  omega
 simp only [binOp,Op.shift,h1,if_false,Int.toNat_natCast,h2,Sem.run_pure,Int.fdiv_eq_ediv_of_nonneg _ h3]
theorem st_shr (h:St n a l) {d:Nat} {x y:Operand} {T:Nat} {k k2:IntKind} {p:Int} {s:Nat} (hx:Hd l x (.int k p)) (hy:Hd l y (.int k2 (s:Int))) (hs:s<=k.bits) (hd:d < n) (c:∀ a',St n a' ((d,.int k (p / 2 ^ s)) :: l)->wpList P ops Q r a' w) :
  wpList P ops Q (mk (some d) (.binOp .shr T x y 0) :: r) a w:=by
 refine qp_ ?_ (c _ (h.put _ hd))
 have he:(eqGuard .shr T x y (.int k p) (.int k2 (s:Int))).run P w=.ok () w:=by
  unfold eqGuard
  simp
 simp only [execOp,mk,hx n a h,hy n a h,Sem.run_bind,he,Result.andThen_ok,run_shr2 hs,Sem.run_pure]
theorem run_or8 {A m:Nat} (hm:m < 128) (w:World):(binOp .or A (.int .u8 (m:Int)) (.int .u8 128)).run P w=.ok (.int .u8 ((m + 128:Nat):Int)) w:=by
 have e1:BitVec.ofInt IntKind.u8.bits (m:Int)=BitVec.ofNat IntKind.u8.bits m:=by simp
 have e2:BitVec.ofInt IntKind.u8.bits 128=BitVec.ofNat IntKind.u8.bits 128:=BitVec.ofInt_natCast (n:=128) ..
 have e3:m ||| 128=m + 128:=by
  have:=Nat.two_pow_add_eq_or_of_lt (i:=7) (b:=m) (by omega) 1
  rw [Nat.or_comm]
  simp at this
  omega
 have e4:(BitVec.ofNat IntKind.u8.bits m ||| BitVec.ofNat IntKind.u8.bits 128).toNat=m + 128:=by
  rw [BitVec.toNat_or,BitVec.toNat_ofNat,BitVec.toNat_ofNat,Nat.mod_eq_of_lt (by simp [IntKind.bits];omega),Nat.mod_eq_of_lt (by simp [IntKind.bits]),e3]
 have hw:IntKind.u8.wrap ((m + 128:Nat):Int)=((m + 128:Nat):Int):=by simp [IntKind.wrap,IntKind.bits,IntKind.signed];omega
 have hkk:(IntKind.u8 ≠ IntKind.u8)=False:=by simp
 simp only [binOp,hkk,if_false,Op.intBits,e1,e2,e4,hw,Sem.run_pure]
theorem st_push (h:St n a l) (ot:OctT P S.tSl S.tU8) {d1 d2 L:Nat} {x o:Operand} {dv:Value} {bs:Bs} {b:UInt8} (hx:Hd l x (jx_ b)) (ho:∀ v,Hd ((d1,v) :: l) o dv) (hd:qv_ w L S.tU8 dv bs) (hL:L<=w.heap.size) (hlim:bs.length + 1<=LIM) (h1:d1 < n) (h2:d2 < n)
  (c:∀ v u w' a',qv_ w' L S.tU8 v (bs++[b])->qc_ (fun k=>L<=k) w w'->St n a' ((d2,v) :: (d1,u) :: l)->wpList P ops Q r a' w'):wpList P ops Q (mk (some d1) (.buildSlice S.tSl 1 #[(0,x)]) :: bi (some d2) .append [o,tm d1] [S.tSl,S.tSl] S.tSl :: r) a w:=by
 refine st_row1 h ot hx h1 fun u a1 hu h=>?_
 have hk:qc_ (fun _=>False) w (w.alloc (.cells #[jx_ b] S.tU8 (0,0))):=qc_.alloc _ _ _
 refine st_app h ot (ho u) (.t (by simp)) (hd.keep hk fun _ _ h=>h) (src_dst ot hu) (Nat.le_trans hL hk.size) hlim h2 fun v w' a' hg h=>?_
 exact c v u w' a' hg.dst ((hk.mono fun _ _ h=>h.elim).trans (hg.far (hd.keep hk fun _ _ h=>h))) h
end
def q6_ (te:Nat) (bs:Bs) (w:World) (e:Ending) (w':World):Prop:=∃ v,e=.returned v/\qv_ w' w.heap.size te v bs/\qc_ (fun _=>False) w w'
theorem mk_of {te:Nat} {bs:Bs} {w w':World} {v:Value} (hd:qv_ w' w.heap.size te v bs) (hk:Fa0 w w'):q6_ te bs w (.returned v) w':=⟨v,rfl,hd,hk.keeps⟩
theorem octv_wrap {m:Nat} (h:m < 256):(Value.int .u8 (m:Int))=jx_ (UInt8.ofNat m):=by
 simp only [jx_]
 rw [u8n h]
theorem uv_calls' (T:RefT P S) (hfn:FnIs P S.fUv 20 [2] (csUvr S)) {x:Nat} (hx:x < 18446744073709551616) (w:World):Calls P S.fUv [.int .u64 (x:Int)].toArray w (q6_ S.tU8 (uvar x) w):=by
 refine z0_ T.mixed hfn (by simp) _ (by simp) fun a h=>?_
 unfold csUvr
 refine qt_ (nrg (qd_ h .c (by omega) fun a h=>wpList_nil ?_))
 refine qt_ (nrg (qd_ h .c (by omega) fun a h=>wpList_nil ?_))
 refine qt_ ?_
 refine z2_ (fun m a' w'=>∃ f v bs,f<=9/\m < 128 ^ (f + 1)/\bs++j4_ f m=uvar x/\qv_ w' w.heap.size S.tU8 v bs/\Fa0 w w'/\St 20 a' [(0,.int .u64 (m:Int)),(3,v)]) x ⟨x,Nat.le_refl _,9,qs_,[],Nat.le_refl _,by omega,rfl,qv_.nil _ _ _,Fa0.refl w,h.pick ⟨rfl,rfl,trivial⟩⟩ ?_
 rintro m a w' hm ⟨f,v,bs,hf,hm2,he,hd,hk,h⟩
 refine qt_ (qt_ (nrg (qe_ h (.t rfl) (by omega) fun a h=>q2_ h rfl (.t rfl) .i (by omega) fun a h=>wpList_nil ?_)))
 have hbl:bs.length<=10:=by
  have h1:=congrArg List.length he
  have h2:=uvarAux_len 9 x
  simp only [List.length_append] at h1
  have:(uvar x).length<=10:=h2
  omega
 refine ja_ h rfl (fun hb=>?_) (fun hb=>?_)
 ·have hgt:127 < m:=by simp [qz_] at hb;omega
  obtain ⟨f,rfl⟩:∃ g,f=g + 1:=⟨f - 1,by
   rcases Nat.eq_zero_or_pos f with h0 | h0
   ·subst h0;simp at hm2;omega
   ·omega⟩
  rw [uvarAux_step hgt] at he
  refine .skip (.block (qt_ (nrg ?_)))
  refine qe_ h (.t rfl) (by omega) fun a h=>qe_ h (.t rfl) (by omega) fun a h=>?_
  refine j2_ h (.t rfl) .i (by simp) (run_and127 (.inr (.inr rfl)) (by simp only [IntKind.bits];omega) w') (by omega) fun a h=>st_conv h (.t rfl) T.dU64 T.dU8 (by omega) fun a h=>?_
  have hw:IntKind.u8.wrap ((m % 128:Nat):Int)=((m % 128:Nat):Int):=by simp [IntKind.wrap,IntKind.bits,IntKind.signed];omega
  rw [hw] at h
  refine j2_ h (.t rfl) .i (by simp) (run_or8 (by omega) w') (by omega) fun a h=>?_
  rw [octv_wrap (by omega)] at h
  refine st_push h T.oct (.t rfl) (fun _=>.t rfl) hd hk.size (by simp only [LIM];omega) (by omega) (by omega) fun v2 u w2 a hd2 hk2 h=>qd_ h (.t rfl) (by omega) fun a h=>wpList_nil ?_
  refine nrg (qe_ h (.t rfl) (by omega) fun a h=>st_shr h (s:=7) (.t rfl) .i (by simp [IntKind.bits]) (by omega) fun a h=>qd_ h (.t rfl) (by omega) fun a h=>wpList_nil ?_)
  have hdiv:(m:Int) / 2 ^ 7=((m / 128:Nat):Int):=by simp
  rw [hdiv] at h
  refine ⟨m / 128,by omega,by omega,f,v2,bs++[UInt8.ofNat (m % 128 + 128)],by omega,?_,?_,hd2,hk.trans hk2,h.pick ⟨rfl,rfl,trivial⟩⟩
  ·have:m < 128 ^ (f + 1) * 128:=by rw [<- Nat.pow_succ];exact hm2
   exact Nat.div_lt_of_lt_mul (by omega)
  ·rw [<- he];simp
 ·have hle:m<=127:=by simp [qz_] at hb;omega
  rw [uvarAux_last hle] at he
  refine .exit ?_
  show NWP P _ _ a w'
  refine qt_ (nrg ?_)
  refine qe_ h (.t rfl) (by omega) fun a h=>qe_ h (.t rfl) (by omega) fun a h=>st_conv h (.t rfl) T.dU64 T.dU8 (by omega) fun a h=>?_
  have hw:IntKind.u8.wrap (m:Int)=(m:Int):=by simp [IntKind.wrap,IntKind.bits,IntKind.signed];omega
  rw [hw,octv_wrap (by omega)] at h
  refine st_push h T.oct (.t rfl) (fun _=>.t rfl) hd hk.size (by simp only [LIM];omega) (by omega) (by omega) fun v2 u w2 a hd2 hk2 h=>qd_ h (.t rfl) (by omega) fun a h=>wpList_nil (.ret ?_)
  rw [he] at hd2
  exact ret1 (RR:=q6_ S.tU8 (uvar x) w) h rfl (mk_of hd2 (hk.trans hk2))
theorem be_snoc (i:Nat) (x:Int):be (i + 1) x=UInt8.ofNat (x / 256 ^ i % 256).toNat :: be i x:=rfl
theorem fix_calls (T:RefT P S) (hfn:FnIs P S.fFix 22 [4] (csFi S)) (x:Int) {k:Nat} (hk8:k<=8) (w:World):Calls P S.fFix [.int .i64 x,.int .i64 (k:Int)].toArray w (q6_ S.tU8 (be k x) w):=by
 refine z0_ T.mixed hfn (by simp) _ (by simp) fun a h=>?_
 unfold csFi
 refine qt_ (nrg (qd_ h .c (by omega) fun a h=>wpList_nil ?_))
 refine qt_ (nrg (qd_ h .c (by omega) fun a h=>wpList_nil ?_))
 refine qt_ (qt_ (nrg (qe_ h (.t rfl) (by omega) fun a h=>j2_ h (.t rfl) .i (by simp) (run_subi w) (by omega) fun a h=>qd_ h (.t rfl) (by omega) fun a h=>wpList_nil ?_)))
 have hw0:IntKind.i64.wrap ((k:Int) - 1)=(k:Int) - 1:=by simp [IntKind.wrap,IntKind.bits,IntKind.signed];omega
 rw [hw0] at h
 refine z2_ (fun m a' w'=>∃ v bs,bs.length<=8/\bs++be m x=be k x/\qv_ w' w.heap.size S.tU8 v bs/\Fa0 w w'/\St 22 a' [(0,.int .i64 x),(6,.int .i64 ((m:Int) - 1)),(5,v)]) k ⟨k,Nat.le_refl _,qs_,[],by simp,rfl,qv_.nil _ _ _,Fa0.refl w,h.pick ⟨rfl,rfl,rfl,trivial⟩⟩ ?_
 rintro m a w' hm ⟨v,bs,hbl0,he,hd,hk,h⟩
 refine qt_ (qt_ (nrg (qe_ h (.t rfl) (by omega) fun a h=>q2_ h rfl (.t rfl) .i (by omega) fun a h=>wpList_nil ?_)))
 have hbl:bs.length + m=k:=by
  have h1:=congrArg List.length he
  simp only [List.length_append,be_length] at h1
  exact h1
 refine ja_ h rfl (fun hb=>?_) (fun hb=>?_)
 ·obtain ⟨i,rfl⟩:∃ i,m=i + 1:=⟨m - 1,by simp [qz_] at hb;omega⟩
  have hi:((i + 1:Nat):Int) - 1=(i:Int):=by omega
  rw [hi] at h
  refine .skip (qt_ (.block (nrg ?_)))
  refine qe_ h (.t rfl) (by omega) fun a h=>qe_ h (.t rfl) (by omega) fun a h=>qe_ h (.t rfl) (by omega) fun a h=>j2_ h .i (.t rfl) (by simp) (run_muli w') (by omega) fun a h=>?_
  have hw1:IntKind.i64.wrap (8 * (i:Int))=((8 * i:Nat):Int):=by simp [IntKind.wrap,IntKind.bits,IntKind.signed];omega
  rw [hw1] at h
  refine st_shr h (s:=8 * i) (.t rfl) (.t rfl) (by simp [IntKind.bits];omega) (by omega) fun a h=>st_conv h (.t rfl) T.dI64 T.dU8 (by omega) fun a h=>?_
  rw [wrap8] at h
  have hb8:(Value.int .u8 ((UInt8.ofNat (x / 2 ^ (8 * i) % 256).toNat).toNat:Int))=jx_ (UInt8.ofNat (x / 256 ^ i % 256).toNat):=by
   have:(2:Int) ^ (8 * i)=256 ^ i:=by rw [Int.pow_mul];rfl
   rw [this];rfl
  rw [hb8] at h
  refine st_push h T.oct (.t rfl) (fun _=>.t rfl) hd hk.size (by simp only [LIM];omega) (by omega) (by omega) fun v2 u w2 a hd2 hk2 h=>qd_ h (.t rfl) (by omega) fun a h=>wpList_nil ?_
  refine nrg (qe_ h (.t rfl) (by omega) fun a h=>j2_ h (.t rfl) .i (by simp) (run_subi w2) (by omega) fun a h=>qd_ h (.t rfl) (by omega) fun a h=>wpList_nil ?_)
  have hw2:IntKind.i64.wrap ((i:Int) - 1)=(i:Int) - 1:=by simp [IntKind.wrap,IntKind.bits,IntKind.signed];omega
  rw [hw2] at h
  refine ⟨i,by omega,by omega,v2,bs++[UInt8.ofNat (x / 256 ^ i % 256).toNat],by simp;omega,?_,hd2,hk.trans hk2,h.pick ⟨rfl,rfl,rfl,trivial⟩⟩
  rw [<- he,be_snoc];simp
 ·have hm0:m=0:=by simp [qz_] at hb;omega
  subst hm0
  refine .exit ?_
  show NWP P _ _ a w'
  refine qt_ (nrg (qe_ h (.t rfl) (by omega) fun a h=>qd_ h (.t rfl) (by omega) fun a h=>wpList_nil (.ret ?_)))
  simp only [be,List.append_nil] at he
  rw [he] at hd
  exact ret1 (RR:=q6_ S.tU8 (be k x) w) h rfl (mk_of hd hk)
theorem cnt_calls (T:RefT P S) (hE1:Ent P S.fUv) (hc1:∀ (x:Nat) (w:World),x < 18446744073709551616->Calls P S.fUv [.int .u64 (x:Int)].toArray w (q6_ S.tU8 (uvar x) w)) (hE2:Ent P S.fFix) (hc2:∀ (x:Int) (k:Nat) (w:World),k<=8->Calls P S.fFix [.int .i64 x,.int .i64 (k:Int)].toArray w (q6_ S.tU8 (be k x) w))
  (hfn:FnIs P S.fCnt 28 [8] (csCn S)) (fx null:Bool) {m k:Nat} (hm:m<=zh_) (hk:k<=8) (w:World):Calls P S.fCnt [.bool fx,.bool null,.int .i64 (m:Int),.int .i64 (k:Int)].toArray w (q6_ S.tU8 (sCnt fx null m k) w):=by
 refine z0_ T.mixed hfn (by simp) _ (by simp) fun a h=>?_
 unfold csCn
 have hmm:m < 32768:=by simp only [zh_] at hm;omega
 refine qt_ (nrg (qd_ h .c (by omega) fun a h=>wpList_nil ?_))
 refine qt_ (.block (qt_ (nrg (qe_ h (.t rfl) (by omega) fun a h=>qe_ h (.t rfl) (by omega) fun a h=>?_))))
 cases fx with
 | true=>
  refine sg_move h rfl rfl rfl (by omega) (.t rfl) (by omega) fun a h=>jt_ h (.t rfl) (.t rfl) .c (by omega) fun a h=>qd_ h (.t rfl) (by omega) fun a h=>wpList_nil ?_
  cases null with
  | true=>
   refine ja_ h rfl (fun _=>?_) (fun hb=>by cases hb)
   refine qt_ (nrg (st_row1 h T.oct (b:=0) .i (by omega) fun v a hd h=>qd_ h (.t rfl) (by omega) fun a h=>wpList_nil (.ret ?_)))
   exact ret1 (RR:=q6_ S.tU8 (sCnt true true m k) w) h rfl (mk_of hd (qc_.alloc _ _ _))
  | false=>
   refine ja_ h rfl (fun hb=>by cases hb) (fun _=>?_)
   refine qt_ (nrg (qe_ h (.t rfl) (by omega) fun a h=>qd_ h (.t rfl) (by omega) fun a h=>wpList_nil ?_))
   refine ja_ h rfl (fun _=>?_) (fun hb=>by cases hb)
   refine qt_ (nrg (qe_ h (.t rfl) (by omega) fun a h=>st_conv h (.t rfl) T.dInt T.dU64 (by omega) fun a h=>j2_ h (.t rfl) .i (by simp) (j0_ w) (by omega) fun a h=>?_))
   have hw:IntKind.u64.wrap (IntKind.u64.wrap (m:Int) + 1)=((m + 1:Nat):Int):=by simp [IntKind.wrap,IntKind.bits,IntKind.signed];omega
   rw [hw] at h
   refine q3_ h hE1 (vs:=[.int .u64 ((m + 1:Nat):Int)]) (fun n a h=>by simp only [List.map_cons,List.map_nil];rw [Hd.t (l:=_) rfl n a h]) (hc1 (m + 1) w (by omega)) (by omega) fun e w' hR=>?_
   obtain ⟨v,rfl,hd,hk⟩:=hR
   refine ⟨v,rfl,fun a h=>qd_ h (.t rfl) (by omega) fun a h=>wpList_nil (.ret ?_)⟩
   exact ret1 (RR:=q6_ S.tU8 (sCnt true false m k) w) h rfl ⟨v,rfl,hd,hk⟩
 | false=>
  refine qy_ h rfl rfl rfl (by omega) (by simp) (by omega) fun a h=>jt_ h (.t rfl) (.t rfl) .c (by omega) fun a h=>qd_ h (.t rfl) (by omega) fun a h=>wpList_nil ?_
  refine ja_ h rfl (fun hb=>by cases hb) (fun _=>?_)
  refine qt_ (nrg (qe_ h (.t rfl) (by omega) fun a h=>qd_ h (.t rfl) (by omega) fun a h=>wpList_nil ?_))
  refine ja_ h rfl (fun hb=>by cases hb) (fun _=>?_)
  refine qt_ (nrg (qe_ h (.t rfl) (by omega) fun a h=>qd_ h (.t rfl) (by omega) fun a h=>wpList_nil ?_))
  cases null with
  | true=>
   refine ja_ h rfl (fun _=>?_) (fun hb=>by cases hb)
   refine qt_ (nrg (qe_ h (.t rfl) (by omega) fun a h=>?_))
   refine q3_ h hE2 (vs:=[.int .i64 (-1),.int .i64 (k:Int)]) (fun n a h=>by simp only [List.map_cons,List.map_nil];rw [Hd.t (l:=_) rfl n a h];rfl) (hc2 (-1) k w hk) (by omega) fun e w' hR=>?_
   obtain ⟨v,rfl,hd,hk⟩:=hR
   refine ⟨v,rfl,fun a h=>qd_ h (.t rfl) (by omega) fun a h=>wpList_nil (.ret ?_)⟩
   exact ret1 (RR:=q6_ S.tU8 (sCnt false true m k) w) h rfl ⟨v,rfl,hd,hk⟩
  | false=>
   refine ja_ h rfl (fun hb=>by cases hb) (fun _=>?_)
   refine .skip (qt_ (nrg (qe_ h (.t rfl) (by omega) fun a h=>qe_ h (.t rfl) (by omega) fun a h=>?_)))
   refine q3_ h hE2 (vs:=[.int .i64 (m:Int),.int .i64 (k:Int)]) (fun n a h=>by simp only [List.map_cons,List.map_nil];rw [Hd.t (l:=_) (i:=25) rfl n a h,Hd.t (l:=_) (i:=26) rfl n a h]) (hc2 m k w hk) (by omega) fun e w' hR=>?_
   obtain ⟨v,rfl,hd,hk⟩:=hR
   refine ⟨v,rfl,fun a h=>qd_ h (.t rfl) (by omega) fun a h=>wpList_nil (.ret ?_)⟩
   exact ret1 (RR:=q6_ S.tU8 (sCnt false false m k) w) h rfl ⟨v,rfl,hd,hk⟩
end
end Go.Proofs.Ytbgklecbmhaadaa.Kx

namespace Go.Proofs.Ytbgklecbmhaadaa.Kx
open Go
set_option maxRecDepth 4000
theorem newvar {w:World} {T:Nat} {z:Value} {cs:List Value} (_hz:z.cells.size=cs.length):qc_ (fun _=>False) w ((w.alloc (.cells z.cells T (0,0))).setRow w.heap.size cs.toArray)/\qf_ ((w.alloc (.cells z.cells T (0,0))).setRow w.heap.size cs.toArray) w.heap.size 0 cs:=by
 have hn:=qk_ w (.cells z.cells T (0,0))
 refine ⟨?_,fun j c hj=>?_⟩
 ·exact ((qc_.alloc (fun k=>k=w.heap.size) w _).trans (qc_.setRow _ _ _ _ rfl)).mono fun k hk hX=>by omega
 ·have:=setRow_heap _ _ _ cs.toArray _ _ hn
  simp only [World.cell?,this,Option.isSome_none,Bool.false_eq_true,if_false,Nat.zero_add,List.getElem?_toArray,hj]
section
variable {P:Program} {S:SN}
section
variable {ops:Array Oper} {Q:Exit->Act->World->Prop} {r:List Oper} {n:Nat} {a:Act} {w:World} {l:List (Nat × Value)}
theorem st_newvar (h:St n a l) {d T:Nat} {z:Value} {x:Operand} {cs:List Value} (hz:∀ w,(zeroValue T).run P w=.ok z w) (hzs:z.cells.size=cs.length) (hx:∀ v,Hd ((d,v) :: l) x (.agg cs.toArray)) (hs:∀ w,(sizeOf T).run P w=.ok cs.length w) (h1:∀ u ∈ cs,u.oneCell'=true) (hd:d < n)
  (c:∀ w' a',qc_ (fun _=>False) w w'->qf_ w' w.heap.size 0 cs->St n a' ((d,pt w.heap.size 0) :: l)->wpList P ops Q r a' w'):wpList P ops Q (mk (some d) (.alloc T) :: mk none (.store T (tm d) x) :: r) a w:=by
 refine j6_ h (hz w) hd fun a h=>?_
 have hn:=newvar (w:=w) (T:=T) hzs
 exact zq_ h (.t (by simp)) (hx _) (by simp [Value.cells]) hs (qk_ w _) hzs h1 (c _ _ hn.1 hn.2 h)
theorem st_build (h:St n a l) {d t:Nat} {ps:Array (Nat × Operand)} {qs:Array (Nat × Value)} {v:Value} (hp:∀ (n:Nat) (a:Act),St n a l->ps.map (fun p=>(p.1,a.eval p.2))=qs) (hb:(Instr.build t qs).run P w=.ok v w) (hd:d < n) (c:∀ a',St n a' ((d,v) :: l)->wpList P ops Q r a' w) :
  wpList P ops Q (mk (some d) (.build t ps) :: r) a w:=by
 refine qp_ ?_ (c _ (h.put _ hd))
 have e:=hp n a h
 simp [execOp,mk,e,hb]
end
theorem callsTC (hm:P.follows .mixedOrders=true) {f n s t:Nat} {c:Code} {w:World} {RR:Ending->World->Prop} (hfn:FnIsC P f n s t c) (args:List Value) (hnt:args.length<=n)
  (h:∀ a,St n a (ixs0 0 args)->NWP P c (Rt (fun _ _=>False) (fun a w=>a.defers=[]/\∃ p v,a.get s=.pointer (some p)/\(loadVar t p).run P w=.ok v w/\RR (.returned v) w)) a w):Calls P f args.toArray w RR:=by
 refine hfn.calls hm (h _ ⟨size_args args.toArray n (by simpa using hnt),rfl,fun i v hi=>?_⟩)
 obtain ⟨_,h2⟩:=ixs0_lookup args 0 i v hi
 have h2:args[i]?=some v:=by simpa using h2
 have hlt:i < args.length:=(List.getElem?_eq_some_iff.1 h2).1
 rw [get_args _ _ _ (by simpa using hlt)]
 have:=(List.getElem?_eq_some_iff.1 h2).2
 simpa using this
theorem fCells_one (kind:Nat) (lo hi nul tag df:Int) (of:Nat) {sv:Value} (h:sv.oneCell'=true):∀ u ∈ qr_ kind lo hi nul tag df of sv,u.oneCell'=true:=by
 intro u hu
 simp only [qr_,List.mem_cons,List.not_mem_nil,or_false] at hu
 rcases hu with rfl | rfl | rfl | rfl | rfl | rfl | rfl | rfl <;> first | rfl | exact h
theorem sub_one {w:World} {sub:SFs} {sv:Value} (h:(sub=.nil/\sv=qs_) \/ ∃ b' o' c',sv=.slice (some ⟨b',o',none⟩) sub.len c'/\sub.len<=maxLen/\FsAt w sub b' o'):sv.oneCell'=true:=by
 rcases h with ⟨_,rfl⟩ | ⟨_,_,_,rfl,_⟩ <;> rfl
def zy_:SFs->Bool
 | .nil=>true
 | .cons _ _ _ _ tag _ _ _ r=>decide (tag < 1000) && zy_ r
theorem sKnown_le:∀ sf:SFs,zy_ sf=true->qn_ sf<=1000
 | .nil,_=>by simp [qn_]
 | .cons _ _ _ _ tag _ _ _ r,h=>by
  simp only [zy_,Bool.and_eq_true,decide_eq_true_eq] at h
  have:=sKnown_le r h.2
  simp only [qn_]
  split
  ·exact Nat.max_le.2 ⟨by omega,this⟩
  ·exact this
theorem kw_calls (T:RefT P S) (hfn:FnIs P S.fKnown 23 [2] (csKw S)) {sf:SFs} {fv:Value} (htag:zy_ sf=true) (w:World) (hf:FsRp w sf fv):Calls P S.fKnown [fv].toArray w fun e w'=>e=.returned (.int .u32 (qn_ sf:Int))/\qc_ (fun _=>False) w w':=by
 obtain ⟨base,c,rfl,hlen,hfs⟩:=hf.form
 refine z0_ T.mixed hfn (by simp) _ (by simp) fun a h=>?_
 unfold csKw
 refine qt_ (nrg (qd_ h .i (by omega) fun a h=>wpList_nil ?_))
 refine qt_ (nrg (qd_ h .i (by omega) fun a h=>wpList_nil ?_))
 refine qt_ (qt_ (nrg (qe_ h (.t rfl) (by omega) fun a h=>zd_ h (.t rfl) T.dFs (by omega) fun a h=>qe_ h .i (by omega) fun a h=>wpList_nil ?_)))
 refine z2_ (fun m a' w'=>∃ (i cur:Nat) (rest:SFs),i + m=sf.len/\rest.len=m/\zy_ rest=true/\Nat.max cur (qn_ rest)=qn_ sf/\(∀ b o,base=some ⟨b,o,none⟩->FsAt w sf b o->FsAt w rest b (o + i * 8))/\qc_ (fun _=>False) w w' /\
   St 23 a' [(6,.slice base sf.len c),(7,.int .i64 (sf.len:Int)),(8,.int .i64 (i:Int)),(3,.int .u32 (cur:Int))]) sf.len
  ⟨sf.len,Nat.le_refl _,0,0,sf,by omega,rfl,htag,by simp,fun b o _ hh=>by simpa using hh,qc_.refl _ _,h.pick ⟨rfl,rfl,rfl,rfl,trivial⟩⟩ ?_
 rintro m a w1 hm ⟨i,cur,rest,him,hrl,hrt,hmax,hat,hk,h⟩
 refine qt_ (nrg (q2_ h rfl (.t rfl) (.t rfl) (by omega) fun a h=>wpList_nil ?_))
 refine st_test h rfl (fun hb=>?_) (fun hb=>?_)
 ·have hlt:i < sf.len:=by simp [qz_] at hb;omega
  refine .skip ?_
  cases hr:rest with
  | nil=>rw [hr] at hrl;simp [SFs.len] at hrl;omega
  | cons kind lo hi nul tag df of sub r=>
   subst hr
   obtain ⟨b,o,rfl,hfa⟩:=hfs.resolve_left (fun hh=>by rw [hh] at hlt;simp [SFs.len] at hlt)
   obtain ⟨⟨sv,hc,hsub⟩,hnext⟩:=hat b o rfl hfa
   simp only [zy_,Bool.and_eq_true,decide_eq_true_eq] at hrt
   have hcs:qf_ w1 b (o + i * 8) (qr_ kind lo hi nul tag df of sv):=qf_.kn hk hc
   refine qt_ (.block (qt_ (nrg ?_)))
   refine zj_ h (sz:=8) (.t rfl) (.t rfl) hlt T.dFs T.vF.size (by omega) fun a h=>jh_ h (cs:=qr_ kind lo hi nul tag df of sv) (.t rfl) T.vF hcs (by omega) fun a h=>?_
   refine st_newvar h (cs:=qr_ kind lo hi nul tag df of sv) T.zF rfl (fun _=>.t rfl) T.vF.size (fCells_one kind lo hi nul tag df of (sub_one hsub)) (by omega) fun w2 a hk2 hc2 h=>wpList_nil ?_
   refine qt_ (nrg (q1_ h (.t rfl) T.f4 (by omega) fun a h=>qu_ h (.t rfl) T.f4.var (hc2.at (j:=4) rfl) (by omega) fun a h=>q2_ h rfl (.t rfl) .i (by omega) fun a h=>wpList_nil ?_))
   have step:∀ (a:Act) (l:List (Nat × Value)) (w3:World) (cur':Nat),St 23 a l->l.lookup 6=some (.slice (some ⟨b,o,none⟩) sf.len c)->l.lookup 7=some (.int .i64 (sf.len:Int))->l.lookup 8=some (.int .i64 (i:Int))->l.lookup 3=some (.int .u32 (cur':Int))->Nat.max cur' (qn_ r)=qn_ sf->qc_ (fun _=>False) w w3 ->
     NWP P (rg (okw_7 S)) (Exit.then (fun a' w'=>∃ m',m'<=sf.len/\m' < m/\∃ (i cur:Nat) (rest:SFs),i + m'=sf.len/\rest.len=m'/\zy_ rest=true/\Nat.max cur (qn_ rest)=qn_ sf/\(∀ b' o',some (⟨b,o,none⟩:Addr)=some ⟨b',o',none⟩->FsAt w sf b' o'->FsAt w rest b' (o' + i * 8))/\qc_ (fun _=>False) w w' /\
      St 23 a' [(6,.slice (some ⟨b,o,none⟩) sf.len c),(7,.int .i64 (sf.len:Int)),(8,.int .i64 (i:Int)),(3,.int .u32 (cur:Int))]) (Exit.inBlock 0 (Exit.then (NWP P (.seq (rg (okw_8 S)) .ret) (Rt (fun a' w'=>a'.defers=[]/\Ending.returned (js_ [2] a')=.returned (.int .u32 (qn_ sf:Int))/\qc_ (fun _=>False) w w') (fun a' w'=>a'.defers=[]/\Ending.returned (js_ [2] a')=.returned (.int .u32 (qn_ sf:Int))/\qc_ (fun _=>False) w w')))
       (Rt (fun a' w'=>a'.defers=[]/\Ending.returned (js_ [2] a')=.returned (.int .u32 (qn_ sf:Int))/\qc_ (fun _=>False) w w') (fun a' w'=>a'.defers=[]/\Ending.returned (js_ [2] a')=.returned (.int .u32 (qn_ sf:Int))/\qc_ (fun _=>False) w w'))))) a w3:=by
    intro a l w3 cur' h h6 h7 h8 h3 hmx hk3
    refine nrg (j2_ h (.t h8) .i (by simp) (j0_ w3) (by omega) fun a h=>?_)
    have hw:IntKind.i64.wrap ((i:Int) + 1)=((i + 1:Nat):Int):=by simp only [maxLen] at hlen;simp [IntKind.wrap,IntKind.bits,IntKind.signed];omega
    rw [hw] at h
    refine qe_ h (.t rfl) (by omega) fun a h=>wpList_nil ?_
    refine ⟨m - 1,by omega,by omega,i + 1,cur',r,by omega,by simp only [SFs.len] at hrl;omega,hrt.2,hmx,fun b' o' hbo hh=>?_,hk3,h.pick ⟨?_,?_,rfl,?_,trivial⟩⟩
    ·have:=(hat b' o' hbo hh).2
     rw [show o' + (i + 1) * 8=o' + i * 8 + 8 by omega]
     exact this
    ·simp only [List.lookup_cons];simpa using h6
    ·simp only [List.lookup_cons];simpa using h7
    ·simp only [List.lookup_cons];simpa using h3
   refine ja_ h rfl (fun hb=>?_) (fun hb=>?_)
   ·have h0:0<=tag:=by simp [qz_] at hb;omega
    refine nrg (qe_ h (.t rfl) (by omega) fun a h=>q1_ h (.t rfl) T.f4 (by omega) fun a h=>qu_ h (.t rfl) T.f4.var (hc2.at (j:=4) rfl) (by omega) fun a h=>st_conv h (.t rfl) T.dInt T.dU32 (by omega) fun a h=>j2_ h (.t rfl) .i (by simp) (j0_ w2) (by omega) fun a h=>?_)
    have hw:IntKind.u32.wrap (IntKind.u32.wrap tag + 1)=((tag.toNat + 1:Nat):Int):=by simp [IntKind.wrap,IntKind.bits,IntKind.signed];omega
    rw [hw] at h
    refine st_max h (.t rfl) (.t rfl) (by omega) fun a h=>?_
    have hmx:(if (cur:Int) < ((tag.toNat + 1:Nat):Int) then ((tag.toNat + 1:Nat):Int) else (cur:Int))=((Nat.max cur (tag.toNat + 1):Nat):Int):=by
     show _=((max cur (tag.toNat + 1):Nat):Int)
     split <;> omega
    rw [hmx] at h
    refine qd_ h (.t rfl) (by omega) fun a h=>wpList_nil ?_
    refine step a _ w2 _ h rfl rfl rfl rfl ?_ (hk.trans hk2)
    rw [<- hmax]
    simp only [qn_,if_pos h0]
    show max (max cur (tag.toNat + 1)) (qn_ r)=max cur (max (tag.toNat + 1) (qn_ r))
    omega
   ·have h0:¬ 0<=tag:=by simp [qz_] at hb;omega
    refine .skip (step a _ w2 cur h rfl rfl rfl rfl ?_ (hk.trans hk2))
    rw [<- hmax]
    simp only [qn_,if_neg h0]
 ·have hge:¬ i < sf.len:=by simp [qz_] at hb;omega
  have hm0:rest=.nil:=by
   cases rest with
   | nil=>rfl
   | cons=>simp only [SFs.len] at hrl;omega
  subst hm0
  refine .exit ?_
  show NWP P _ _ a w1
  refine qt_ (nrg (qe_ h (.t rfl) (by omega) fun a h=>qd_ h (.t rfl) (by omega) fun a h=>wpList_nil (.ret ?_)))
  have hcur:cur=qn_ sf:=by rw [<- hmax];simp [qn_]
  exact ret1 (RR:=fun e w'=>e=.returned (.int .u32 (qn_ sf:Int))/\qc_ (fun _=>False) w w') h rfl ⟨by rw [hcur],hk⟩
theorem RowRp.get {α:Type} {w:World} {sz:Nat} {El:List Value->α->Prop} {v:Value} {xs:List α} (h:RowRp w sz El v xs) {i:Nat} {x:α} (hi:xs[i]?=some x):∃ b o c cs,v=.slice (some ⟨b,o,none⟩) xs.length c/\cs.length=sz/\qf_ w b (o + i * sz) cs/\El cs x:=by
 rcases h with ⟨_,_,rfl⟩ | ⟨b,o,c,rfl,_,_,h3⟩
 ·simp at hi
 ·obtain ⟨cs,a1,a2,a3⟩:=h3 i x hi
  exact ⟨b,o,c,cs,rfl,a1,a2,a3⟩
theorem TrRp.one {w:World}:∀ {k:Nat} {cs:List Value} {t:Tr},TrRp w k cs t->∀ u ∈ cs,u.oneCell'=true
 | 0,_,_,hs=>hs.elim
 | _ + 1,_,_,hs=>by
  obtain ⟨sv,lv,uv,rfl,h2,h3,h4⟩:=hs
  intro u hu
  simp only [List.mem_cons,List.not_mem_nil,or_false] at hu
  have a2:sv.oneCell'=true:=by obtain ⟨_,_,rfl,_⟩:=h2.form;rfl
  have a3:lv.oneCell'=true:=by obtain ⟨_,_,rfl,_⟩:=h3.form;rfl
  have a4:uv.oneCell'=true:=by obtain ⟨_,_,rfl,_⟩:=h4.form;rfl
  rcases hu with rfl | rfl | rfl | rfl | rfl
  ·rfl
  ·exact a2
  ·rfl
  ·exact a3
  ·exact a4
theorem at_calls (T:RefT P S) (hfn:FnIsC P S.fAt 16 4 S.tT (csAt S)) {k i:Nat} {cs:List Value} {t:Tr} (w:World) (ht:TrRp w k cs t) :
  Calls P S.fAt [.agg cs.toArray,.int .i64 (i:Int)].toArray w fun e w'=>∃ cs',e=.returned (.agg cs'.toArray)/\TrRp w k cs' (t.at i)/\qc_ (fun _=>False) w w':=by
 cases k with
 | zero=>exact ht.elim
 | succ k=>
 have ht0:=ht
 obtain ⟨sv,lv,uv,rfl,h2,h3,h4⟩:=ht
 refine callsTC T.mixed hfn _ (by simp) fun a h=>?_
 unfold csAt
 refine qt_ (nrg (st_box h (.t rfl) (by omega) fun a h=>?_))
 have hk1:qc_ (fun _=>False) w (w.alloc (.cells [.int .i64 t.num,sv,.bool t.null,lv,uv].toArray S.tT (0,0))):=qc_.alloc _ _ _
 have hc1:=jn_ w [.int .i64 t.num,sv,.bool t.null,lv,uv] S.tT
 have hs1:(w.alloc (.cells [.int .i64 t.num,sv,.bool t.null,lv,uv].toArray S.tT (0,0))).heap.size=w.heap.size + 1:=by simp
 generalize w.alloc (.cells [.int .i64 t.num,sv,.bool t.null,lv,uv].toArray S.tT (0,0))=w1 at hk1 hc1 hs1 ⊢
 refine j6_ h (T.zT w1) (by omega) fun a h=>wpList_nil ?_
 have hn:=qk_ w1 (.cells (Value.agg #[.int .i64 0,qs_,.bool false,qs_,qs_]).cells S.tT (0,0))
 have hk2:qc_ (fun _=>False) w1 (w1.alloc (.cells (Value.agg #[.int .i64 0,qs_,.bool false,qs_,qs_]).cells S.tT (0,0))):=qc_.alloc _ _ _
 generalize w1.alloc (.cells (Value.agg #[.int .i64 0,qs_,.bool false,qs_,qs_]).cells S.tT (0,0))=w2 at hn hk2 ⊢
 have hc2:=qf_.kn hk2 hc1
 have hk:=hk1.trans hk2
 obtain ⟨lb,lc,hlv,_,hlmx,_⟩:=h3.form
 have fin:∀ (cs':List Value) (a:Act) (l:List (Nat × Value)) (x:Operand),St 16 a l->Hd l x (.agg cs'.toArray)->l.lookup 4=some (pt w1.heap.size 0)->cs'.length=5->(∀ u ∈ cs',u.oneCell'=true)->TrRp w (k + 1) cs' (t.at i)->∀ (ops:Array Oper) (R:Exit->Act->World->Prop),
   (∀ a' w',(a'.defers=[]/\∃ p v,a'.get 4=.pointer (some p)/\(loadVar S.tT p).run P w'=.ok v w'/\∃ cs',Ending.returned v=.returned (.agg cs'.toArray)/\TrRp w (k + 1) cs' (t.at i)/\qc_ (fun _=>False) w w')->R .normal a' w')->wpList P ops R [mk none (.store S.tT (tm 4) x)] a w2:=by
  intro cs' a l x h hx h4' hl hone htr ops R hR
  refine zq_ h (.t h4') hx (by simp [Value.cells]) (by rw [hl];exact T.vT.size) hn (by simp [Value.cells,hl]) hone (wpList_nil (hR _ _ ⟨h.defers,⟨w1.heap.size,0,none⟩,.agg cs'.toArray,h.get 4 _ h4',?_,cs',rfl,htr,?_⟩))
  ·have hr:=setRow_heap _ _ _ cs'.toArray _ _ hn
   have hcell:∀ j v,cs'[j]?=some v->(w2.setRow w1.heap.size cs'.toArray).cell? ((⟨w1.heap.size,0,none⟩:Addr).add j)=some v:=fun j v hj=>by
    rw [Addr.add_lit]
    simp only [World.cell?,hr,Option.isSome_none,Bool.false_eq_true,if_false,Nat.zero_add,List.getElem?_toArray,hj]
   have hll:=run_loadCells_list (P:=P) (w2.setRow w1.heap.size cs'.toArray) ⟨w1.heap.size,0,none⟩ cs' hcell
   rw [hl] at hll
   simp [loadVar,T.vT.agg,T.vT.size,hll]
  ·exact ((hk.mono (Y:=fun k=>k=w1.heap.size) fun _ _ h=>h.elim).trans (qc_.setRow _ _ _ _ rfl)).mono fun k hk hX=>by omega
 refine qt_ (qt_ (nrg ?_))
 refine qe_ h (.t rfl) (by omega) fun a h=>q1_ h (.t rfl) T.t3 (by omega) fun a h=>qu_ h (.t rfl) T.t3.var (hc2.at (j:=3) rfl) (by omega) fun a h=>?_
 have h':=h
 rw [hlv] at h'
 refine zd_ h' (.t rfl) T.dTs (by omega) fun a h=>q2_ h rfl (.t rfl) (.t rfl) (by omega) fun a h=>wpList_nil ?_
 refine ja_ h rfl (fun hb=>?_) (fun hb=>?_)
 ·have hlt:i < t.list.length:=by simp [qz_] at hb;omega
  obtain ⟨x,hx⟩:∃ x,t.list[i]?=some x:=⟨_,List.getElem?_eq_getElem hlt⟩
  have hat:t.at i=x:=by simp [Tr.at,List.getD,hx]
  obtain ⟨b,o,c,cs',hv,hl',hcs',htx⟩:=h3.get hx
  refine qt_ (nrg ?_)
  refine q1_ h (.t rfl) T.t3 (by omega) fun a h=>qu_ h (.t rfl) T.t3.var (hc2.at (j:=3) rfl) (by omega) fun a h=>qe_ h (.t rfl) (by omega) fun a h=>?_
  rw [hv] at h
  refine zj_ h (sz:=5) (.t rfl) (.t rfl) hlt T.dTs T.vT.size (by omega) fun a h=>?_
  refine jh_ h (cs:=cs') (.t rfl) (by rw [hl'];exact T.vT) (qf_.kn hk hcs') (by omega) fun a h=>?_
  refine fin cs' a _ _ h (.t rfl) rfl hl' htx.one (by rw [hat];exact htx.up (by omega)) _ _ fun a' w' hh=>.ret hh
 ·have hge:¬ i < t.list.length:=by simp [qz_] at hb;omega
  have hat:t.at i=.zero:=by simp [Tr.at,List.getD,List.getElem?_eq_none (by omega:t.list.length<=i)]
  refine .skip (qt_ (nrg ?_))
  refine st_build h (qs:=#[]) (fun _ _ _=>by simp) (T.bT w2) (by omega) fun a h=>?_
  refine fin [.int .i64 0,qs_,.bool false,qs_,qs_] a _ _ h (.t rfl) rfl rfl (by simp [Value.oneCell',qs_]) (by rw [hat];exact (TrRp.zero w).up (by omega)) _ _ fun a' w' hh=>.ret hh
end
end Go.Proofs.Ytbgklecbmhaadaa.Kx

namespace Go.Proofs.Ytbgklecbmhaadaa.Kx
open Go
set_option maxRecDepth 4000
structure LeafC (P:Program) (S:SN):Prop where
 tab:RefT P S
 vB:jo_ P S.tB false 1
 uvE:Ent P S.fUv
 uvC:∀ (x:Nat) (w:World),x < 18446744073709551616->Calls P S.fUv [.int .u64 (x:Int)].toArray w (q6_ S.tU8 (uvar x) w)
 fixE:Ent P S.fFix
 fixC:∀ (x:Int) (k:Nat) (w:World),k<=8->Calls P S.fFix [.int .i64 x,.int .i64 (k:Int)].toArray w (q6_ S.tU8 (be k x) w)
 cntE:Ent P S.fCnt
 cntC:∀ (fx null:Bool) (m k:Nat) (w:World),m<=zh_->k<=8->Calls P S.fCnt [.bool fx,.bool null,.int .i64 (m:Int),.int .i64 (k:Int)].toArray w (q6_ S.tU8 (sCnt fx null m k) w)
 widE:Ent P S.fWid
 widC:∀ (kind:Nat) (w:World),Calls P S.fWid [.int .i64 (kind:Int)].toArray w fun e w'=>e=.returned (.int .i64 (jj_ kind:Int))/\w'=w
 whE:Ent P S.fWhole
 whC:∀ (w:World) (X:Nat->Prop) (v:Value) (bs:Bs),OcX w X v bs->Calls P S.fWhole [v].toArray w fun e w'=>∃ v',e=.returned v'/\OcX w X v' (bs.take zh_)/\w'=w
 thE:Ent P S.fThings
 thC:∀ (w:World) (k:Nat) (v:Value) (xs:List Tr),RowRp w 5 (TrRp w k) v xs->Calls P S.fThings [v].toArray w fun e w'=>∃ v',e=.returned v'/\RowRp w 5 (TrRp w k) v' (xs.take zh_)/\w'=w
 hasE:Ent P S.fHas
 hasC:∀ (kind:Nat) (lo hi nul tag df:Int) (of:Nat) (sv:Value) (ver:Int) (w:World),Calls P S.fHas [.agg (qr_ kind lo hi nul tag df of sv).toArray,.int .i64 ver].toArray w fun e w'=>e=.returned (.bool (sHas lo hi ver))/\qc_ (fun _=>False) w w'
 nullE:Ent P S.fNull
 nullC:∀ (kind:Nat) (lo hi nul tag df:Int) (of:Nat) (sv:Value) (ver:Int) (nm:Int) (tn:Bool) (x1 x3 x4:Value) (w:World),Calls P S.fNull [.agg (qr_ kind lo hi nul tag df of sv).toArray,.int .i64 ver,.agg [.int .i64 nm,x1,.bool tn,x3,x4].toArray].toArray w fun e w'=>e=.returned (.bool (tn && sNul nul ver))/\qc_ (fun _=>False) w w'
 knE:Ent P S.fKnown
 knC:∀ (sf:SFs) (fv:Value) (w:World),zy_ sf=true->FsRp w sf fv->Calls P S.fKnown [fv].toArray w fun e w'=>e=.returned (.int .u32 (qn_ sf:Int))/\qc_ (fun _=>False) w w'
 atE:Ent P S.fAt
 atC:∀ (k i:Nat) (cs:List Value) (t:Tr) (w:World),TrRp w k cs t->Calls P S.fAt [.agg cs.toArray,.int .i64 (i:Int)].toArray w fun e w'=>∃ cs',e=.returned (.agg cs'.toArray)/\TrRp w k cs' (t.at i)/\qc_ (fun _=>False) w w'
 unE:Ent P S.fUnk
 unC:∀ (sf:SFs) (fv uv:Value) (raw:List (UInt32 × Bs)) (w:World),zy_ sf=true->FsRp w sf fv->RowRp w 2 (TagRp w) uv raw->Calls P S.fUnk [fv,uv].toArray w fun e w'=>∃ v raw',e=.returned v/\RowRp w' 2 (TagRp w') v raw'/\(raw'.map fun p=>(p.1.toNat,p.2))=sUnk (qn_ sf) (raw.map fun p=>(p.1.toNat,p.2))/\qc_ (fun _=>False) w w'
def PartC (P:Program) (S:SN) (sf:SFs):Prop:=∀ (w:World) (ver:Int) (fx:Bool) (k:Nat) (cs:List Value) (t:Tr) (fv:Value),FsRp w sf fv->TrRp w k cs t->(jd_ ver fx sf t).length<=LIM->Calls P S.fPart [fv,.int .i64 ver,.bool fx,.agg cs.toArray].toArray w (q6_ S.tU8 (jd_ ver fx sf t) w)
section
variable {P:Program} {S:SN}
theorem run_and1 {A:Nat} {x:Int} (w:World):(binOp .and A (.int .i64 x) (.int .i64 1)).run P w=.ok (.int .i64 (x % 2)) w:=by
 have e2:BitVec.ofInt 64 1=1#64:=rfl
 have h0:(BitVec.ofInt 64 x &&& 1#64).toNat=(x % 2).toNat:=by
  rw [BitVec.toNat_and,BitVec.toNat_ofInt]
  have:(1#64).toNat=1:=rfl
  rw [this,Nat.and_one_is_mod]
  have h1:(0:Int)<=x % ((2 ^ 64:Nat):Int):=Int.emod_nonneg _ (by simp)
  have h2:x % ((2 ^ 64:Nat):Int) % 2=x % 2:=Int.emod_emod_of_dvd x (by decide)
  omega
 have hw:IntKind.i64.wrap (((x % 2).toNat:Nat):Int)=x % 2:=by simp [IntKind.wrap,IntKind.bits,IntKind.signed];omega
 have hkk:(IntKind.i64 ≠ IntKind.i64)=False:=by simp
 have e:(BitVec.ofInt IntKind.i64.bits x &&& BitVec.ofInt IntKind.i64.bits 1).toNat=(x % 2).toNat:=h0
 simp only [binOp,hkk,if_false,Op.intBits,e,hw,Sem.run_pure]
theorem va_text8 (C:LeafC P S) {W:World} {w:World} {fx null:Bool} {t:Tr} {B:Nat} {sv lv uv:Value} (hsv:OcRp W sv t.octets) (hk:Fa0 W w) (hB:qf_ w B 0 [.int .i64 t.num,sv,.bool t.null,lv,uv])
  (hlim:(sText fx null 2 t.octets).length<=LIM) {a:Act} (h:St 70 a [(11,pt B 0),(2,.bool null),(4,.bool fx)]) {R:Exit->Act->World->Prop} (hR:∀ a' w',(a'.defers=[]/\q6_ S.tU8 (sText fx null 2 t.octets) W (.returned (a'.get 12)) w')->R .ret a' w') :
  NWP P (.seq (rg (ova_9 S)) (.seq (.seq (rg (ova_10 S)) (.cond (tm 37) (rg (ova_11 S)) .skip)) (.seq (rg (ova_12 S)) .ret))) R a w:=by
 have T:=C.tab
 refine qt_ (nrg (q1_ h (.t rfl) T.t1 (by omega) fun a h=>qu_ h (.t rfl) T.t1.var (hB.at (j:=1) rfl) (by omega) fun a h=>?_))
 refine q3_ h C.whE (vs:=[sv]) (fun n a h=>by simp only [List.map_cons,List.map_nil];rw [Hd.t (l:=_) (i:=35) rfl n a h]) (C.whC w (fun _=>False) sv t.octets (hsv.far hk)) (by omega) fun e w' hR1=>?_
 obtain ⟨v14,rfl,hv14,rfl⟩:=hR1
 refine ⟨v14,rfl,fun a h=>qd_ h (.t rfl) (by omega) fun a h=>wpList_nil ?_⟩
 have rest:∀ (a:Act) (x:Value),St 70 a [(2,.bool null),(4,.bool fx),(14,x)]->OcRp w' x (sOcts null t.octets)->NWP P (.seq (rg (ova_12 S)) .ret) R a w':=by
  intro a x h hx
  obtain ⟨bx,cx,hxe,_⟩:=hx.form
  have hmost:(sOcts null t.octets).length<=zh_:=by
   simp only [sOcts]
   split
   ·simp
   ·exact take_most _
  refine qt_ (nrg (qe_ h (.t rfl) (by omega) fun a h=>qe_ h (.t rfl) (by omega) fun a h=>qe_ h (.t rfl) (by omega) fun a h=>?_))
  have h':=h
  rw [hxe] at h'
  refine zd_ h' (.t rfl) T.oct.und (by omega) fun a h=>?_
  rw [<- hxe] at h
  refine q3_ h C.cntE (vs:=[.bool fx,.bool null,.int .i64 ((sOcts null t.octets).length:Int),.int .i64 ((2:Nat):Int)]) (fun n a h=>by
   simp only [List.map_cons,List.map_nil]
   rw [Hd.t (l:=_) (i:=38) rfl n a h,Hd.t (l:=_) (i:=39) rfl n a h,Hd.t (l:=_) (i:=41) rfl n a h];rfl) (C.cntC fx null _ 2 w' hmost (by omega)) (by omega) fun e w2 hR2=>?_
  obtain ⟨v42,rfl,hd,hk2⟩:=hR2
  have hx2:=hx.keep hk2
  refine ⟨v42,rfl,fun a h=>qe_ h (.t rfl) (by omega) fun a h=>?_⟩
  refine st_app h T.oct (.t rfl) (.t rfl) hd (src_oc T.oct hx2) hk2.size (by rw [<- List.length_append];exact hlim) (by omega) fun v w3 a hg h=>?_
  refine qd_ h (.t rfl) (by omega) fun a h=>wpList_nil (.ret (hR _ _ ⟨h.defers,v,by rw [h.get 12 v rfl],?_,?_⟩))
  ·exact (hg.lower (L':=W.heap.size) hk.size).dst
  ·exact Fa0.keeps ((hk.kn hk2).up hg.keeps fun i hi=>by have:=(hd.own hi).1;have:=hk.size;omega)
 refine qt_ (qt_ (nrg (qe_ h (.t rfl) (by omega) fun a h=>wpList_nil ?_)))
 cases null with
 | true=>
  refine ja_ h rfl (fun _=>?_) (fun hb=>by cases hb)
  refine nrg (qd_ h .c (by omega) fun a h=>wpList_nil ?_)
  exact rest a qs_ (h.pick ⟨rfl,rfl,rfl,trivial⟩) (.inl ⟨none,rfl,rfl⟩)
 | false=>
  refine ja_ h rfl (fun hb=>by cases hb) (fun _=>?_)
  exact .skip (rest a v14 (h.pick ⟨rfl,rfl,rfl,trivial⟩) hv14)
theorem va_text9 (C:LeafC P S) {W:World} {w:World} {fx null:Bool} {t:Tr} {B:Nat} {sv lv uv:Value} (hsv:OcRp W sv t.octets) (hk:Fa0 W w) (hB:qf_ w B 0 [.int .i64 t.num,sv,.bool t.null,lv,uv])
  (hlim:(sText fx null 4 t.octets).length<=LIM) {a:Act} (h:St 70 a [(11,pt B 0),(2,.bool null),(4,.bool fx)]) {R:Exit->Act->World->Prop} (hR:∀ a' w',(a'.defers=[]/\q6_ S.tU8 (sText fx null 4 t.octets) W (.returned (a'.get 12)) w')->R .ret a' w') :
  NWP P (.seq (rg (ova_14 S)) (.seq (.seq (rg (ova_15 S)) (.cond (tm 50) (rg (ova_16 S)) .skip)) (.seq (rg (ova_17 S)) .ret))) R a w:=by
 have T:=C.tab
 refine qt_ (nrg (q1_ h (.t rfl) T.t1 (by omega) fun a h=>qu_ h (.t rfl) T.t1.var (hB.at (j:=1) rfl) (by omega) fun a h=>?_))
 refine q3_ h C.whE (vs:=[sv]) (fun n a h=>by simp only [List.map_cons,List.map_nil];rw [Hd.t (l:=_) (i:=48) rfl n a h]) (C.whC w (fun _=>False) sv t.octets (hsv.far hk)) (by omega) fun e w' hR1=>?_
 obtain ⟨v14,rfl,hv14,rfl⟩:=hR1
 refine ⟨v14,rfl,fun a h=>qd_ h (.t rfl) (by omega) fun a h=>wpList_nil ?_⟩
 have rest:∀ (a:Act) (x:Value),St 70 a [(2,.bool null),(4,.bool fx),(15,x)]->OcRp w' x (sOcts null t.octets)->NWP P (.seq (rg (ova_17 S)) .ret) R a w':=by
  intro a x h hx
  obtain ⟨bx,cx,hxe,_⟩:=hx.form
  have hmost:(sOcts null t.octets).length<=zh_:=by
   simp only [sOcts]
   split
   ·simp
   ·exact take_most _
  refine qt_ (nrg (qe_ h (.t rfl) (by omega) fun a h=>qe_ h (.t rfl) (by omega) fun a h=>qe_ h (.t rfl) (by omega) fun a h=>?_))
  have h':=h
  rw [hxe] at h'
  refine zd_ h' (.t rfl) T.oct.und (by omega) fun a h=>?_
  rw [<- hxe] at h
  refine q3_ h C.cntE (vs:=[.bool fx,.bool null,.int .i64 ((sOcts null t.octets).length:Int),.int .i64 ((4:Nat):Int)]) (fun n a h=>by
   simp only [List.map_cons,List.map_nil]
   rw [Hd.t (l:=_) (i:=51) rfl n a h,Hd.t (l:=_) (i:=52) rfl n a h,Hd.t (l:=_) (i:=54) rfl n a h];rfl) (C.cntC fx null _ 4 w' hmost (by omega)) (by omega) fun e w2 hR2=>?_
  obtain ⟨v42,rfl,hd,hk2⟩:=hR2
  have hx2:=hx.keep hk2
  refine ⟨v42,rfl,fun a h=>qe_ h (.t rfl) (by omega) fun a h=>?_⟩
  refine st_app h T.oct (.t rfl) (.t rfl) hd (src_oc T.oct hx2) hk2.size (by rw [<- List.length_append];exact hlim) (by omega) fun v w3 a hg h=>?_
  refine qd_ h (.t rfl) (by omega) fun a h=>wpList_nil (.ret (hR _ _ ⟨h.defers,v,by rw [h.get 12 v rfl],?_,?_⟩))
  ·exact (hg.lower (L':=W.heap.size) hk.size).dst
  ·exact Fa0.keeps ((hk.kn hk2).up hg.keeps fun i hi=>by have:=(hd.own hi).1;have:=hk.size;omega)
 refine qt_ (qt_ (nrg (qe_ h (.t rfl) (by omega) fun a h=>wpList_nil ?_)))
 cases null with
 | true=>
  refine ja_ h rfl (fun _=>?_) (fun hb=>by cases hb)
  refine nrg (qd_ h .c (by omega) fun a h=>wpList_nil ?_)
  exact rest a qs_ (h.pick ⟨rfl,rfl,rfl,trivial⟩) (.inl ⟨none,rfl,rfl⟩)
 | false=>
  refine ja_ h rfl (fun hb=>by cases hb) (fun _=>?_)
  exact .skip (rest a v14 (h.pick ⟨rfl,rfl,rfl,trivial⟩) hv14)
end
end Go.Proofs.Ytbgklecbmhaadaa.Kx
