/-
  PLAIN LAWS AND CONTRACTS of messages, part 12 of 12: how readers and writers are printed, what they do, what the reference writes, and that what is written is read as the same. Nothing of a statement stands here.
-/
import Derived.Test.YtlnmiphokmhajaaK1
import Derived.Test.YtlnmiphokmhajaaK2
import Derived.Test.YtlnmiphokmhajaaK4
import Derived.Test.YtlnmiphokmhajaaK5
import Derived.Test.YtlnmiphokmhajaaK7
import Derived.Test.YtlnmiphokmhajaaK9
import Derived.Test.YtlnmiphokmhajaaK10
import Derived.Test.YtlnmiphokmhajaaK11
import Derived.OpenShut
import Derived.ChangeSlices
import Derived.Deep.Slices
import Derived.Carry
import Derived.KernelRfl
import Derived.MapFrom
import Derived.Laws.MakeOwn
import Derived.Maps.RangeRun
import Derived.ChangeKeysEq

namespace Go.Proofs.Ytlnmiphokmhajaa.Kx
open Go Go.ChangeShapes Go.WideShapes Go.RowKit
section
variable {H:Type} {enc:TypeId × Value->H} {P:Program}
theorem qd_.butNone {w w':World} (h:qd_ (fun _=>False) w w') (may:MemPlace->Prop):w.keptBut w' may:=
 World.keptBut_mono (fun _ h=>h.elim) (World.keptBut_none_iff.2 ⟨h.os,h.output,fun i hi=>h.block i hi id⟩)
end
end Go.Proofs.Ytlnmiphokmhajaa.Kx

namespace Go.Proofs.Ytlnmiphokmhajaa.Kx
open Go Go.ChangeShapes Go.WideShapes Go.RowKit Go.Deep
def nfB (P:Program) (t n:Nat):Bool:=match P.underlying t with
 | some (.struct fs)=>fs.size == n
 | _=>false
theorem nfB_ok {P:Program} {t n:Nat} (h:nfB P t n=true) {fs:Array Field} (hf:P.underlying t=some (.struct fs)):fs.size=n:=by
 unfold nfB at h
 rw [hf] at h
 simpa using h
theorem octR_ok {P:Program} {tSl tU8:Nat} (h1:P.underlying tSl=some (.slice tU8)) (h:(P.info? tU8).map (fun i=>(i.zero,i.size,i.bytes))=some (some (.int .u8 0),1,1)):OctT P tSl tU8:=by
 cases hi:P.info? tU8 with
 | none=>rw [hi] at h;cases h
 | some i=>
  rw [hi] at h
  simp only [Option.map_some,Option.some.injEq,Prod.mk.injEq] at h
  exact ⟨h1,i,_,hi,h.1,h.2.1,h.2.2,rfl⟩
theorem iKH_ok {P:Program} {t:Nat} (h:(P.info? t).map (fun i=>(i.zero,i.size,i.bytes))=some (some (.agg #[.string ⟨#[]⟩,nilS]),2,40)):∃ i,P.info? t=some i/\i.zero=some (.agg #[.string ⟨#[]⟩,nilS])/\i.size=2/\i.bytes=40:=by
 cases hi:P.info? t with
 | none=>rw [hi] at h;cases h
 | some i=>
  rw [hi] at h
  simp only [Option.map_some,Option.some.injEq,Prod.mk.injEq] at h
  exact ⟨i,rfl,h.1,h.2.1,h.2.2⟩
structure RecT (P:Program) (S:SN) (N:RN):Prop where
 cSl:P.cellsOf S.tSl=1
 cB:P.cellsOf S.tB=1
 cI64:P.cellsOf S.tI64=1
 c8:P.cellsOf S.tU8=1
 cI32:P.cellsOf N.tI32=1
 cI8:P.cellsOf N.tI8=1
 cStr:P.cellsOf N.tStr=1
 cHs:P.cellsOf N.tHs=1
 cOc:P.cellsOf N.tOc=2
 cH:P.cellsOf N.tH=3
 cR:P.cellsOf N.tR=9
 dB:P.underlying S.tB=some .bool
 nOc:nfB P N.tOc 2=true
 nH:nfB P N.tH 2=true
 nR:nfB P N.tR 7=true
section
variable {H:Type} {enc:TypeId × Value->H} {P:Program} {S:SN} {N:RN} {W:World}
theorem spotR {a:Addr} {v:Value} (h:W.cell? a=some v):a.spot=none/\a.block < W.heap.size:=by
 obtain ⟨b,o,s⟩:=a
 cases s with
 | none=>exact ⟨rfl,lt_of_cell h⟩
 | some s=>
  simp [World.cell?] at h
  split at h <;> cases h
theorem open_octsR (R:Ref0 P S N) (T:RecT P S N) {fuel:Nat} {v:Value} {x:DataW H × List MemPlace} (h:DataW.trod enc P W 0 (fun _=>true) true fuel S.tSl [v]=some x):∃ l:Bs,OcRp W v l:=by
 rcases open_ints R.oct.und R.dU8 T.c8 h with ⟨hcs,rfl⟩ | ⟨a,len,cap,zs,hcs,_,hl,hm,hzl,rfl,hcell,hw⟩
 ·simp only [List.cons.injEq,and_true] at hcs
  exact ⟨[],.inl ⟨none,hcs,rfl⟩⟩
 ·simp only [List.cons.injEq,and_true] at hcs
  subst hcs
  have hzl:zs.length=cap:=by simpa using hzl
  have hlen:((zs.take len).map fun z=>UInt8.ofNat z.toNat).length=len:=by simp only [List.length_map,List.length_take];omega
  refine ⟨(zs.take len).map fun z=>UInt8.ofNat z.toNat,?_⟩
  by_cases h0:cap=0
  ·obtain rfl:len=0:=by omega
   subst h0
   exact .inl ⟨_,rfl,by simp⟩
  ·have hc0:=hcell 0 (by omega)
   have e0:a.add 0=a:=rfl
   rw [e0] at hc0
   obtain ⟨hs,hlt⟩:=spotR hc0
   obtain ⟨b,o,s⟩:=a
   simp only at hs
   subst hs
   refine .inr (.inr ⟨b,o,cap,by rw [hlen],id,hlt,by rw [hlen];exact hl,hm,fun i x hx=>?_⟩)
   simp only [List.getElem?_map,Option.map_eq_some_iff] at hx
   obtain ⟨z,hz,rfl⟩:=hx
   have hi:i < len:=by
    rcases Nat.lt_or_ge i len with h | h
    ·exact h
    ·rw [List.getElem?_take,if_neg (by omega)] at hz;cases hz
   rw [List.getElem?_take,if_pos hi] at hz
   have hzz:=hw z (List.mem_of_getElem? hz)
   have hzz:0<=z/\z < 256:=by simp [Lit.wf,IntKind.min,IntKind.max,IntKind.bits,IntKind.signed] at hzz;omega
   have hci:=hcell i (by omega)
   rw [add_plain] at hci
   rw [hci]
   have e1:zs.getD i 0=z:=by simp [List.getD,hz]
   have e2:(UInt8.ofNat z.toNat).toNat=z.toNat:=UInt8.toNat_ofNat_of_lt (by simpa using (by omega:z.toNat < 256))
   rw [e1,e2,Int.toNat_of_nonneg hzz.1]
theorem rowR_of {α:Type} {El:List Value->α->Prop} {sz len cap:Nat} {a:Addr} (hsz:0 < sz) (hl:len<=cap) (hm:cap<=maxLen) (h:∀ i,i < cap->∃ cs',W.cells? 0 (a.add (i * sz)) sz=some cs'/\(i < len->∃ x,El cs' x)) :
  ∃ xs:List α,RowRp W sz El (.slice (some a) len cap) xs:=by
 by_cases h0:cap=0
 ·obtain rfl:len=0:=by omega
  subst h0
  exact ⟨[],.inl ⟨_,rfl,rfl⟩⟩
 ·obtain ⟨cs0,hc0,_⟩:=h 0 (by omega)
  obtain ⟨_,hl0,hcell0⟩:=World.cells?_some hc0
  have h1:=hcell0 0 hsz
  rw [List.getElem?_eq_getElem (by omega)] at h1
  have e0:(a.add (0 * sz)).add 0=a:=by rw [Nat.zero_mul];rfl
  rw [e0] at h1
  obtain ⟨hs,hlt⟩:=spotR h1
  obtain ⟨b,o,s⟩:=a
  simp only at hs
  subst hs
  have hex:∀ i:Fin len,∃ x,∃ cs',W.cells? 0 ((⟨b,o,none⟩:Addr).add (i.val * sz)) sz=some cs'/\El cs' x:=fun i=>by
   obtain ⟨cs',e1,e2⟩:=h i.val (by omega)
   obtain ⟨x,e3⟩:=e2 i.isLt
   exact ⟨x,cs',e1,e3⟩
  let f:Fin len->α:=fun i=>Classical.choose (hex i)
  have hf:∀ i:Fin len,∃ cs',W.cells? 0 ((⟨b,o,none⟩:Addr).add (i.val * sz)) sz=some cs'/\El cs' (f i):=fun i=>Classical.choose_spec (hex i)
  refine ⟨List.ofFn f,.inr ⟨b,o,cap,by rw [List.length_ofFn],by rw [List.length_ofFn];exact hl,hm,fun i x hx=>?_⟩⟩
  obtain ⟨hi,e⟩:=List.getElem?_eq_some_iff.1 hx
  have hi':i < len:=by simpa using hi
  obtain rfl:x=f ⟨i,hi'⟩:=by rw [<- e];simp
  obtain ⟨cs',e1,e2⟩:=hf ⟨i,hi'⟩
  obtain ⟨_,e3,e4⟩:=World.cells?_some e1
  refine ⟨cs',e3,fun j v hj=>?_,e2⟩
  have:=e4 j (by have:=(List.getElem?_eq_some_iff.1 hj).1;omega)
  rw [hj,add_plain,add_plain] at this
  rw [<- this]
theorem open_rowR {α:Type} {e t sz:Nat} (hund:P.underlying t=some (.slice e)) (hce:P.cellsOf e=sz) (hsz:0 < sz) {El:List Value->α->Prop} {fuel:Nat} {v:Value} {x:DataW H × List MemPlace} (h:DataW.trod enc P W 0 (fun _=>true) true fuel t [v]=some x)
  (hel:∀ (n:Nat) (cs:List Value) (y:DataW H × List MemPlace),DataW.trod enc P W 0 (fun _=>true) true n e cs=some y->∃ a,El cs a):∃ xs:List α,RowRp W sz El v xs:=by
 rcases DataW.trod_slice hund h with ⟨e3,rfl⟩ | ⟨a,len,cap,elems,rest,n,rfl,e3,rfl,_,hl,hm,hlen,he,hsp,_⟩
 ·simp only [List.cons.injEq,and_true] at e3
  exact ⟨[],.inl ⟨none,e3,rfl⟩⟩
 simp only [List.cons.injEq,and_true] at e3
 subst e3
 obtain ⟨hrl,hr⟩:=hsp rfl
 rw [hce] at he hr
 refine rowR_of (W:=W) (El:=El) (sz:=sz) (a:=a) hsz hl hm fun i hi=>?_
 by_cases hil:i < len
 ·have h1:=he i hil
  rw [List.getElem?_eq_getElem (by omega)] at h1
  obtain ⟨cs',h2,h3⟩:=Option.bind_eq_some_iff.1 h1
  exact ⟨cs',h2,fun _=>hel n cs' _ h3⟩
 ·have h1:=hr (i - len) (by omega)
  rw [List.getElem?_eq_getElem (by omega),show len + (i - len)=i by omega] at h1
  obtain ⟨cs',h2,_⟩:=Option.bind_eq_some_iff.1 h1
  exact ⟨cs',h2,fun h=>absurd h hil⟩
theorem open_oc (R:Ref0 P S N) (T:RecT P S N) {fuel:Nat} {cs:List Value} {x:DataW H × List MemPlace} (h:DataW.trod enc P W 0 (fun _=>true) true fuel N.tOc cs=some x):∃ o,OcAt W cs o:=by
 obtain ⟨fs,f0,hu,hf0,o0,ty0⟩:=R.o0.fld
 obtain ⟨fs',f1,hu',hf1,o1,ty1⟩:=R.o1.fld
 obtain rfl:fs=fs':=by rw [hu] at hu';simpa using hu'
 obtain ⟨xs,n,rfl,rfl,hcl,hxl,hfs⟩:=DataW.trod_struct hu h
 rw [T.cOc] at hcl
 rw [nfB_ok T.nOc hu] at hxl
 match cs,hcl,xs,hxl with
 | [c0,c1],_,[y0,y1],_=>
  have h0:=hfs 0 f0 hf0
  have h1:=hfs 1 f1 hf1
  rw [o0,ty0,T.cB] at h0
  rw [o1,ty1,T.cSl] at h1
  simp only [List.drop_zero,List.take_succ_cons,List.take_zero,List.getElem?_cons_zero] at h0
  simp only [List.drop_succ_cons,List.drop_zero,List.take_succ_cons,List.take_zero,List.getElem?_cons_succ,List.getElem?_cons_zero] at h1
  obtain ⟨nl,e0,_⟩:=DataW.trod_bool T.dB h0
  obtain ⟨l,hl⟩:=open_octsR R T h1
  simp only [List.cons.injEq,and_true] at e0
  exact ⟨(nl,l),c1,by rw [e0],hl⟩
theorem open_hd (R:Ref0 P S N) (T:RecT P S N) {fuel:Nat} {cs:List Value} {x:DataW H × List MemPlace} (h:DataW.trod enc P W 0 (fun _=>true) true fuel N.tH cs=some x):∃ o,HdAt W cs o:=by
 obtain ⟨fs,f0,hu,hf0,o0,ty0⟩:=R.h0.fld
 obtain ⟨fs',f1,hu',hf1,o1,ty1⟩:=R.h1.fld
 obtain rfl:fs=fs':=by rw [hu] at hu';simpa using hu'
 obtain ⟨xs,n,rfl,rfl,hcl,hxl,hfs⟩:=DataW.trod_struct hu h
 rw [T.cH] at hcl
 rw [nfB_ok T.nH hu] at hxl
 match cs,hcl,xs,hxl with
 | [c0,c1,c2],_,[y0,y1],_=>
  have h0:=hfs 0 f0 hf0
  have h1:=hfs 1 f1 hf1
  rw [o0,ty0,T.cStr] at h0
  rw [o1,ty1,T.cOc] at h1
  simp only [List.drop_zero,List.take_succ_cons,List.take_zero,List.getElem?_cons_zero] at h0
  simp only [List.drop_succ_cons,List.drop_zero,List.take_succ_cons,List.take_zero,List.getElem?_cons_succ,List.getElem?_cons_zero] at h1
  obtain ⟨s,e0,_,hs⟩:=DataW.trod_string R.dStr h0
  obtain ⟨⟨nl,l⟩,v,e1,hl⟩:=open_oc R T h1
  simp only [List.cons.injEq,and_true] at e0 e1
  refine ⟨(s.data.toList,nl,l),c2,?_,?_,?_⟩
  ·rw [e0,e1.1]
  ·rw [e1.2];exact hl
  ·exact hs
theorem open_rec (R:Ref0 P S N) (T:RecT P S N) {fuel:Nat} {cs:List Value} {x:DataW H × List MemPlace} (h:DataW.trod enc P W 0 (fun _=>true) true fuel N.tR cs=some x):∃ r,RecAt W cs r:=by
 obtain ⟨fs,f0,hu,hf0,o0,ty0⟩:=R.r0.fld
 obtain ⟨fs1,f1,hu1,hf1,o1,ty1⟩:=R.r1.fld
 obtain ⟨fs2,f2,hu2,hf2,o2,ty2⟩:=R.r2.fld
 obtain ⟨fs3,f3,hu3,hf3,o3,ty3⟩:=R.r3.fld
 obtain ⟨fs4,f4,hu4,hf4,o4,ty4⟩:=R.r4.fld
 obtain ⟨fs5,f5,hu5,hf5,o5,ty5⟩:=R.r5.fld
 obtain ⟨fs6,f6,hu6,hf6,o6,ty6⟩:=R.r6.fld
 obtain rfl:fs=fs1:=by rw [hu] at hu1;simpa using hu1
 obtain rfl:fs=fs2:=by rw [hu] at hu2;simpa using hu2
 obtain rfl:fs=fs3:=by rw [hu] at hu3;simpa using hu3
 obtain rfl:fs=fs4:=by rw [hu] at hu4;simpa using hu4
 obtain rfl:fs=fs5:=by rw [hu] at hu5;simpa using hu5
 obtain rfl:fs=fs6:=by rw [hu] at hu6;simpa using hu6
 obtain ⟨xs,n,rfl,rfl,hcl,hxl,hfs⟩:=DataW.trod_struct hu h
 rw [T.cR] at hcl
 rw [nfB_ok T.nR hu] at hxl
 match cs,hcl,xs,hxl with
 | [c0,c1,c2,c3,c4,c5,c6,c7,c8],_,[y0,y1,y2,y3,y4,y5,y6],_=>
  have h0:=hfs 0 f0 hf0
  have h1:=hfs 1 f1 hf1
  have h2:=hfs 2 f2 hf2
  have h3:=hfs 3 f3 hf3
  have h4:=hfs 4 f4 hf4
  have h5:=hfs 5 f5 hf5
  have h6:=hfs 6 f6 hf6
  rw [o0,ty0,T.cI32] at h0
  rw [o1,ty1,T.cI8] at h1
  rw [o2,ty2,T.cI64] at h2
  rw [o3,ty3,T.cI32] at h3
  rw [o4,ty4,T.cOc] at h4
  rw [o5,ty5,T.cOc] at h5
  rw [o6,ty6,T.cHs] at h6
  simp only [List.drop_zero,List.drop_succ_cons,List.take_succ_cons,List.take_zero,List.getElem?_cons_zero,List.getElem?_cons_succ] at h0 h1 h2 h3 h4 h5 h6
  obtain ⟨m0,e0,_,w0⟩:=DataW.trod_int R.dI32 h0
  obtain ⟨m1,e1,_,w1⟩:=DataW.trod_int R.dI8 h1
  obtain ⟨m2,e2,_,w2⟩:=DataW.trod_int R.dI64 h2
  obtain ⟨m3,e3,_,w3⟩:=DataW.trod_int R.dI32 h3
  obtain ⟨⟨n4,l4⟩,v4,e4,hl4⟩:=open_oc R T h4
  obtain ⟨⟨n5,l5⟩,v5,e5,hl5⟩:=open_oc R T h5
  obtain ⟨hs,hl6⟩:=open_rowR (El:=HdAt W) R.dHs T.cH (by omega) h6 fun n' cs y hy=>open_hd R T hy
  simp only [List.cons.injEq,and_true] at e0 e1 e2 e3 e4 e5
  simp [Lit.wf,IntKind.min,IntKind.max,IntKind.bits,IntKind.signed] at w0 w1 w2 w3
  refine ⟨⟨m0,m1,m2,m3,(n4,l4),(n5,l5),hs⟩,c5,c7,c8,?_,?_,?_,hl6,by dsimp only;omega,by dsimp only;omega,by dsimp only;omega,by dsimp only;omega⟩
  ·rw [e0,e1,e2,e3,e4.1,e5.1]
  ·rw [e4.2];exact hl4
  ·rw [e5.2];exact hl5
theorem arg_octsR (R:Ref0 P S N) (T:RecT P S N) {base:Nat} {v:Value} {d:DataW H} {p:List MemPlace} (hval:Value.okWide P W .any base S.tSl v) (h:DataW.Trod enc P W 0 (fun _=>true) true S.tSl v d p):∃ l:Bs,OcRp W v l:=by
 obtain ⟨a0,len0,cap0,rfl⟩:=okWide_slice R.oct.und hval
 obtain ⟨fuel,hf⟩:=h
 exact open_octsR R T (by simpa [Value.cells] using hf)
theorem arg_rec (R:Ref0 P S N) (T:RecT P S N) {base:Nat} {v:Value} {d:DataW H} {p:List MemPlace} (hval:Value.okWide P W .any base N.tR v) (h:DataW.Trod enc P W 0 (fun _=>true) true N.tR v d p):∃ (cs:List Value) (x:Rec),v=.agg cs.toArray/\RecAt W cs x:=by
 obtain ⟨fs,f0,hu,_⟩:=R.r0.fld
 obtain ⟨cs,rfl,_⟩:=okWide_struct hu hval
 obtain ⟨fuel,hf⟩:=h
 obtain ⟨x,hx⟩:=open_rec R T hf
 exact ⟨cs.toList,x,by simp,by simpa [Value.cells] using hx⟩
theorem qd_.belowR {W W':World} (h:qd_ (fun _=>False) W W'):Below W.heap.size W W':=⟨h.os,h.tape,h.output,h.size,fun i hi=>h.block i hi id⟩
theorem rowR (R:Ref0 P S N) (T:RecT P S N) (hlo:laidOutB P=true) (hr1:P.readableRec S.tSl=true) (hl1:S.tSl < P.types.size) (hr2:P.readableRec N.tR=true) (hl2:N.tR < P.types.size) {f:FuncId} {fn:Func} {s:ChangeSpec} {tB:TypeId} (hpar:fn.params.toList=[S.tSl,N.tR]) (hres:fn.resultTypes=#[tB]) (hB:P.underlying tB=some .bool)
  (hv:s.vars=[]) (hs:∀ d1 d2:DataW H,s.fn H [d1,d2]={ results:=[.lit (.bool true)],args:=[d1,d2] }) {base:Nat} {args:Array Value} {ds gs:List (DataW H)} {before:List MemPlace}
  (hval:∀ (j:Nat) t v,fn.params[j]?=some t->args[j]?=some v->Value.okWide P W .any base t v) (hW:DataW.Whole enc P fn.params.toList s.vars false W args.toList ds gs before)
  (hcall:∀ (dv:Value) (dst:Bs) (cs:List Value) (x:Rec),OcRp W dv dst->RecAt W cs x->Calls P f [dv,.agg cs.toArray].toArray W (TrueC W)) :
  Calls P f args W fun e W'=>∃ v,e=.returned v/\s.post enc P fn false true false false W args v W':=by
 have hW':=hW
 obtain ⟨p,q,hA0,hV,rfl,hfz,hnd⟩:=hW
 have hA:DataW.TrodAll enc P W 0 (fun _=>true) true fn.params.toList args.toList ds p:=hA0
 have hpj:∀ j,fn.params[j]?=([S.tSl,N.tR]:List TypeId)[j]?:=fun j=>by rw [<- hpar,Array.getElem?_toList]
 rw [hpar] at hA
 obtain ⟨v0,v1,d0,d1,p0,p1,rfl,rfl,rfl,h0,h1⟩:=trodAll_two hA
 rw [hv] at hV
 obtain ⟨rfl,rfl⟩:=trodVars_none hV
 obtain ⟨dst,hd⟩:=arg_octsR R T (hval 0 S.tSl v0 (by rw [hpj];rfl) rfl) h0
 obtain ⟨cs,x,rfl,hx⟩:=arg_rec R T (hval 1 N.tR v1 (by rw [hpj];rfl) rfl) h1
 refine (hcall v0 dst cs x hd hx).mono fun e W' ⟨he,hk⟩=>?_
 subst he
 refine ⟨_,rfl,_,_,_,[],p0++p1,[],hW',?_,?_,?_,hk.butNone _,fun h=>by cases h⟩
 ·rw [hres]
  simp only [List.append_nil,hs]
  exact trodAll_mk1 (shut_bool hB true)
 ·rw [hpar]
  simp only [List.append_nil,hs]
  exact trodAll_mk2 (Below.trod hlo hr1 hl1 h0 hk.belowR fun x hx=>by
   have:=hW'.lt x (by simp [hx])
   simpa using this) (Below.trod hlo hr2 hl2 h1 hk.belowR fun x hx=>by
   have:=hW'.lt x (by simp [hx])
   simpa using this)
 ·rw [hv]
  simp only [List.append_nil,hs]
  rfl
end
end Go.Proofs.Ytlnmiphokmhajaa.Kx
