/-
  PLAIN LAWS AND CONTRACTS of messages, part 4 of 18: how readers and writers are printed, what they do, what the reference writes, and that what is written is read as the same. Nothing of a statement stands here.
-/
import Derived.Test.YtbgklecbmhaadaaK1
import Derived.Test.YtbgklecbmhaadaaK3

namespace Go.Proofs.Ytbgklecbmhaadaa.Kx
open Go
theorem SrcAt.sl {w:World} {S:Nat} {X:Nat->Prop} {v:Value} {r:RS} (h:SrcAt w S v r) (hS:¬ X S):SlRp w X v r.src:=by
 rcases h with ⟨h1,h2,_⟩ | ⟨o,c,h1,_,h3,h4,h5,h6⟩
 ·exact .inl ⟨h1,h2⟩
 ·exact .inr ⟨S,o,c,h1,hS,h5,h3,h4,h6⟩
section
variable {P:Program} {g:G} {av:PF->Bool} {fl:Bool} {cx:Cx} {fx:Bool} {ver:Int} {S R B O:Nat} {r:RS} {x m k0 n:Nat} {K N E:Act->World->Prop} {Q:Exit->Act->World->Prop} {a:Act} {w:World}
theorem wp_callK {P:Program} {o:Oper} {d:Option Nat} {f:Nat} {args:List Operand} {vs:Array Value} {R:Ending->World->Prop} {K':Act->World->Prop} {Q':Exit->Act->World->Prop} (ho:o=cl d f args) (hf:Ent P f) (hargs:(args.map a.eval).toArray=vs)
  (hc:Calls P f vs w R) (h:∀ e w',R e w'->∃ v,e=.returned v/\K' (a.put d v) w'):o.wp P a w K' Q':=by
 subst ho
 unfold Oper.wp
 have:(execOp a.eval (cl d f args)).run P w=.ok (.enter f vs) w:=by
  have he:a.eval (.func f)=.func (.func f) #[] #[]:=rfl
  simp only [cl,execOp,mk,resolve,he,Deferred.ofValue,invoke,Sem.run_bind,Sem.run_pure,Result.andThen_ok,Array.empty_append,Array.append_empty,List.map_toArray,hargs]
  exact hf _ _
 rw [this]
 exact hc.mono fun e w' hR=>by
  obtain ⟨v,rfl,hh⟩:=h e w' hR
  exact hh
end
def aggD:TypeDesc->Bool
 | .struct _ | .array _ _=>true
 | _=>false
def varB (P:Program) (F:Nat) (agg:Bool) (sz:Nat):Bool:=
 match P.underlying F,P.info? F with
 | some d,some i=>(aggD d == agg) && (i.size == sz)
 | _,_=>false
theorem varB_ok {P:Program} {F:Nat} {agg:Bool} {sz:Nat} (h:varB P F agg sz=true):jo_ P F agg sz:=by
 unfold varB at h
 split at h
 ·rename_i d i hd hi
  simp only [Bool.and_eq_true,beq_iff_eq] at h
  have ht:TyIs P F d sz:=⟨hd,i,hi,h.2⟩
  refine ⟨fun w=>?_,fun w=>ht.sizeOf w⟩
  rw [ht.isAgg w,<- h.1]
  cases d <;> rfl
 ·cases h
def fldB (P:Program) (T k F off:Nat) (agg:Bool) (sz:Nat):Bool:=
 (match P.underlying T with
  | some (.struct fs)=>(match fs[k]? with | some f=>(f.offset == off) && (f.type == F) | none=>false)
  | _=>false) && varB P F agg sz && decide (0 < sz)
theorem fldB_ok {P:Program} {T k F off:Nat} {agg:Bool} {sz:Nat} (h:fldB P T k F off agg sz=true):jr_ P T k F off agg sz:=by
 simp only [fldB,Bool.and_eq_true,decide_eq_true_eq] at h
 obtain ⟨⟨h1,h2⟩,h3⟩:=h
 split at h1
 ·rename_i fs hfs
  split at h1
  ·rename_i f hf
   simp only [Bool.and_eq_true,beq_iff_eq] at h1
   exact ⟨⟨fs,f,hfs,hf,h1.1,h1.2⟩,varB_ok h2,h3⟩
  ·cases h1
 ·cases h1
def fldT (P:Program) (T k:Nat):Nat:=
 match P.underlying T with
 | some (.struct fs)=>(match fs[k]? with | some f=>f.type | none=>0)
 | _=>0
def sizeT (P:Program) (F:Nat):Nat:=match P.info? F with | some i=>i.size | none=>0
def rowOf (P:Program) (F:Nat):Option (Nat × Nat × Array Value):=
 match P.underlying F with
 | some (.slice E)=>
  match P.info? E with
  | some i=>
   match i.zero with
   | some z=>if z.cells.size == i.size && decide (0 < i.size) && decide (0 < i.bytes) && decide (i.bytes<=24 * i.size + 8) then some (E,i.size,z.cells) else none
   | none=>none
  | none=>none
 | _=>none
theorem rowOf_ok {P:Program} {F E sz:Nat} {z:Array Value} (h:rowOf P F=some (E,sz,z)):RowIs P F E sz z:=by
 unfold rowOf at h
 split at h
 ·rename_i E' hE
  split at h
  ·rename_i i hi
   split at h
   ·rename_i z' hz
    split at h
    ·rename_i hc
     simp only [Option.some.injEq,Prod.mk.injEq] at h
     obtain ⟨rfl,rfl,rfl⟩:=h
     simp only [Bool.and_eq_true,beq_iff_eq,decide_eq_true_eq] at hc
     obtain ⟨⟨⟨h1,h2⟩,h3⟩,h4⟩:=hc
     exact ⟨hE,i,z',hi,hz,rfl,rfl,h1,h2,h3,h4⟩
    ·cases h
   ·cases h
  ·cases h
 ·cases h
def zeroOf (P:Program) (E:Nat):Option Value:=match P.info? E with | some i=>i.zero | none=>none
theorem zeroOf_ok {P:Program} {E:Nat} {z:Value} (h:zeroOf P E=some z) (w:World):(zeroValue E).run P w=.ok z w:=by
 unfold zeroOf at h
 split at h
 ·rename_i i hi
  simp [zeroValue,typeInfo,hi,h]
 ·cases h
def eqV:Value->Value->Bool
 | .bool a,.bool b=>a == b
 | .int k x,.int k' y=>(k == k') && (x == y)
 | .string a,.string b=>a.data.isEmpty && b.data.isEmpty
 | .pointer none,.pointer none=>true
 | .slice none a b,.slice none c d=>(a == c) && (b == d)
 | .map none,.map none=>true
 | _,_=>false
theorem eqV_ok {x y:Value} (h:eqV x y=true):x=y:=by
 unfold eqV at h
 split at h
 ·simpa using h
 ·rename_i k x k' y
  simp only [Bool.and_eq_true,beq_iff_eq] at h
  rw [h.1,h.2]
 ·rename_i a b
  simp only [Bool.and_eq_true] at h
  obtain ⟨h1,h2⟩:=h
  obtain ⟨a⟩:=a
  obtain ⟨b⟩:=b
  simp only [Array.isEmpty_iff] at h1 h2
  rw [h1,h2]
 ·rfl
 ·simp only [Bool.and_eq_true,beq_iff_eq] at h
  rw [h.1,h.2]
 ·rfl
 ·cases h
def eqAt (z:Array Value) (o:Nat) (v:Value):Bool:=match z[o]? with | some x=>eqV x v | none=>false
theorem eqAt_ok {z:Array Value} {o:Nat} {v:Value} (h:eqAt z o v=true):z[o]?=some v:=by
 unfold eqAt at h
 split at h
 ·rename_i x hx
  rw [hx,eqV_ok h]
 ·cases h
def Prim.fitsB:Prim->Int->Bool
 | .bool,x=>x == 0 || x == 1
 | .i8,x=>decide (-128<=x) && decide (x < 128)
 | .i16,x=>decide (-32768<=x) && decide (x < 32768)
 | .u16,x=>decide (0<=x) && decide (x < 65536)
 | .i32,x=>decide (-2147483648<=x) && decide (x < 2147483648)
 | .i64,x=>decide (-9223372036854775808<=x) && decide (x < 9223372036854775808)
 | .uuid,_=>false
theorem Prim.fitsB_ok {p:Prim} {x:Int} (h:p.fitsB x=true):p.fits x:=by
 cases p <;> simp [Prim.fitsB,Prim.fits] at h ⊢ <;> exact h
mutual
def zTy (z:Array Value) (df:Int):Ty->Nat->Bool
 | .prim .bool,o=>(df == 0 && eqAt z o (.bool false)) || (df == 1 && eqAt z o (.bool true))
 | .prim .uuid,o=>(List.range 16).all fun j=>eqAt z (o + j) (.int .u8 0)
 | .prim p,o=>eqAt z o (.int p.kind df) && p.fitsB df
 | .str none,o=>eqAt z o (.string ⟨#[]⟩)
 | .str (some _),o=>eqAt z o (.pointer none)
 | .bytes _,o=>eqAt z o (.slice none 0 0)
 | .list _ _ _,o=>eqAt z o (.slice none 0 0)
 | .struct none toff fs,o=>zFds z fs o && (match toff with | some k=>eqAt z (o + k) (.map none) | none=>true)
 | .struct (some _) _ _,o=>eqAt z o (.pointer none)
def zFds (z:Array Value):Fds->Nat->Bool
 | .nil,_=>true
 | .cons _ _ _ df off ty r,o=>zTy z df ty (o + off) && zFds z r o
end
def zTg (z:Array Value) (toff:Option Nat):Bool:=match toff with | some k=>eqAt z k (.map none) | none=>true
def HasZ (w:World) (b q:Nat) (z:Array Value):Prop:=∀ j v,z[j]?=some v->w.cell? ⟨b,q + j,none⟩=some v
theorem HasZ.one {w:World} {b q o:Nat} {z:Array Value} {v:Value} (h:HasZ w b q z) (hz:eqAt z o v=true):w.cell? ⟨b,q + o,none⟩=some v:=h o v (eqAt_ok hz)
theorem cells1 {w:World} {b o:Nat} {v:Value} (h:w.cell? ⟨b,o,none⟩=some v):qf_ w b o [v]:=by
 intro j c hj
 cases j with
 | zero=>simp at hj;subst hj;simpa using h
 | succ j=>simp at hj
mutual
theorem zTy_ok {w:World} {b q:Nat} {z:Array Value} (hw:HasZ w b q z) (X:Nat->Prop):∀ (ty:Ty) (df:Int) (o:Nat),zTy z df ty o=true->Rp w X ty b (q + o) (dfTy df ty)
 | .prim p,df,o,h=>by
  cases p
  case bool=>
   simp only [zTy,Bool.or_eq_true,Bool.and_eq_true,beq_iff_eq] at h
   rcases h with ⟨rfl,h⟩ | ⟨rfl,h⟩
   ·exact ⟨_,cells1 (hw.one h),false,rfl,rfl⟩
   ·exact ⟨_,cells1 (hw.one h),true,rfl,rfl⟩
  case uuid=>
   simp only [zTy,List.all_eq_true,List.mem_range] at h
   refine ⟨(uuid0.map fun b=>.int .u8 (b.toNat:Int)),?_,uuid0,rfl,rfl,rfl⟩
   intro j c hj
   have hjl:j < 16:=by
    have:=(List.getElem?_eq_some_iff.1 hj).1
    simpa [uuid0] using this
   have hc:c=.int .u8 0:=by
    rw [List.getElem?_map,uuid0,List.getElem?_replicate,if_pos hjl] at hj
    simpa using hj.symm
   rw [hc]
   have:=hw.one (h j hjl)
   rwa [<- Nat.add_assoc] at this
  all_goals
   simp only [zTy,Bool.and_eq_true] at h
   exact ⟨_,cells1 (hw.one h.1),_,rfl,rfl,Prim.fitsB_ok h.2⟩
 | .str none,df,o,h=>⟨_,cells1 (hw.one h),[],rfl,rfl,by simp⟩
 | .str (some _),df,o,h=>⟨_,cells1 (hw.one h),.inl ⟨rfl,rfl⟩⟩
 | .bytes _,df,o,h=>⟨_,cells1 (hw.one h),.inl ⟨rfl,rfl⟩⟩
 | .list _ _ _,df,o,h=>.inl ⟨hw.one h,rfl⟩
 | .struct none toff fs,df,o,h=>by
  simp only [zTy,Bool.and_eq_true] at h
  refine ⟨_,[],rfl,zFds_ok hw X fs o h.1,?_⟩
  cases toff with
  | none=>rfl
  | some k=>
   refine ⟨.map none,?_,.inl ⟨rfl,rfl⟩⟩
   have:=hw.one h.2
   rwa [<- Nat.add_assoc] at this
 | .struct (some _) _ _,df,o,h=>.inl ⟨hw.one h,rfl⟩
theorem zFds_ok {w:World} {b q:Nat} {z:Array Value} (hw:HasZ w b q z) (X:Nat->Prop):∀ (fs:Fds) (o:Nat),zFds z fs o=true->RpF w X fs b (q + o) (dfFds fs)
 | .nil,o,h=>rfl
 | .cons _ _ _ df off ty r,o,h=>by
  simp only [zFds,Bool.and_eq_true] at h
  refine ⟨_,_,rfl,?_,zFds_ok hw X r o h.2⟩
  have:=zTy_ok hw X ty df (o + off) h.1
  rwa [<- Nat.add_assoc] at this
end
theorem zTg_ok {w:World} {b q:Nat} {z:Array Value} (hw:HasZ w b q z) (X:Nat->Prop) {toff:Option Nat} (h:zTg z toff=true):TgAt w X b q toff []:=by
 cases toff with
 | none=>rfl
 | some k=>exact ⟨.map none,hw.one h,.inl ⟨rfl,rfl⟩⟩
def Ty.agg:Ty->Bool
 | .prim .uuid=>true
 | _=>false
inductive DI where
 | st (s T k F:Nat) (c:Value)
 | fa (v s T k:Nat)
 | nop (v:Nat)
def gDI:DI->GC
 | .st s T k F c=>j8_ 3 fun n=>[mk (some n) (.move (tm s)),mk (some (n + 1)) (.nilCheck (tm n)),mk (some (n + 2)) (.fieldAddr T (tm (n + 1)) k),mk none (.store F (tm (n + 2)) (.const c))]
 | .fa v s T k=>gFieldAddr s v T k
 | .nop v=>j8_ 1 fun n=>[mk (some n) (.move (tm v))]
def gDflt (items:List DI) (n0:Nat):Code:=(gS (items.map gDI) n0).1
def oneB:Value->Bool
 | .int _ _=>true
 | .bool _=>true
 | .pointer none=>true
 | _=>false
theorem oneB_ok {c:Value} (h:oneB c=true):c.oneCell'=true/\c.cells=#[c]:=by
 cases c <;> first | exact ⟨rfl,rfl⟩ | cases h
def offT (P:Program) (T k:Nat):Nat:=
 match P.underlying T with
 | some (.struct fs)=>(match fs[k]? with | some f=>f.offset | none=>0)
 | _=>0
def aggT (P:Program) (F:Nat):Bool:=match P.underlying F with | some (.struct _)=>true | some (.array _ _)=>true | _=>false
def dRun (P:Program) (k0:Nat):List DI->List (Nat × Nat)->Option (List (Nat × Value))
 | [],_=>some []
 | .st s T k F c :: r,env=>
  match env.lookup s with
  | some o=>if oneB c && fldB P T k F (offT P T k) false 1 && decide (s < k0) then (dRun P k0 r env).map fun wr=>(o + offT P T k,c) :: wr else none
  | none=>none
 | .fa v s T k :: r,env=>
  match env.lookup s with
  | some o=>if decide (v < k0) && decide (s < k0) && fldB P T k (fldT P T k) (offT P T k) (aggT P (fldT P T k)) (sizeT P (fldT P T k)) then dRun P k0 r ((v,o + offT P T k) :: env) else none
  | none=>none
 | .nop _ :: r,env=>dRun P k0 r env
theorem splice_one {cur:Array Value} {i:Nat} {c:Value} (h:i < cur.size):q4_ cur i [c]=cur.setIfInBounds i c:=by
 apply Array.ext_getElem?
 intro j
 rw [Array.getElem?_setIfInBounds]
 by_cases hj:i=j
 ·subst hj
  rw [if_pos rfl,if_pos h]
  simpa using ze_ (cur:=cur) (o:=i) (vs:=[c]) (by simp;omega) 0 (by simp)
 ·rw [if_neg hj]
  exact jl_ (by simp;omega) j (by simp only [List.length_cons,List.length_nil];omega)
section
variable {P:Program} {B O te k0:Nat}
theorem df_items:∀ (items:List DI) (env:List (Nat × Nat)) (wr:List (Nat × Value)) (n:Nat) (a:Act) (w:World) (cur:Array Value) (K:Act->World->Prop),dRun P k0 items env=some wr->(∀ s o,env.lookup s=some o->s < k0->a.get s=pt B (O + o))->k0<=n->(gL (items.map gDI) n).2<=a.tmps.size ->
  w.heap[B]?=some (.cells cur te (0,0))->(∀ p ∈ wr,O + p.1 < cur.size)->(∀ a' w',a'.defers=a.defers->qc_ (·=B) w w'->w'.heap[B]?=some (.cells (applyWr cur O wr) te (0,0))->K a' w')->LW P (items.map gDI) n (Rt K fun _ _=>False) a w
 | [],env,wr,n,a,w,cur,K,h,henv,hk,hn,hB,hO,hK=>by
  obtain rfl:=Option.some.inj h
  exact j9_ (hK a w rfl (qc_.refl _ _) hB)
 | .nop v :: r,env,wr,n,a,w,cur,K,h,henv,hk,hn,hB,hO,hK=>by
  have hup:n + 1<=(gL (r.map gDI) (n + 1)).2:=up_list (fun x hx=>by
   obtain ⟨d,_,rfl⟩:=List.mem_map.1 hx
   cases d <;> exact qq_ _ _) _
  have hn':(gL (r.map gDI) (n + 1)).2<=a.tmps.size:=hn
  refine qj_ (qw_ (qg_ (wpList_nil ?_)))
  refine df_items r env wr (n + 1) _ w cur K h (fun s o hs hs0=>by rw [gpo (by omega)];exact henv s o hs hs0) (by omega) (by rw [qa_];exact hn') hB hO hK
 | .fa v s T k :: r,env,wr,n,a,w,cur,K,h,henv,hk,hn,hB,hO,hK=>by
  have hup:n + 3<=(gL (r.map gDI) (n + 3)).2:=up_list (fun x hx=>by
   obtain ⟨d,_,rfl⟩:=List.mem_map.1 hx
   cases d <;> exact qq_ _ _) _
  have hn':(gL (r.map gDI) (n + 3)).2<=a.tmps.size:=hn
  unfold dRun at h
  split at h
  ·rename_i o hlo
   split at h
   ·rename_i hc
    simp only [Bool.and_eq_true,decide_eq_true_eq] at hc
    obtain ⟨⟨hv,hs⟩,hF⟩:=hc
    refine qj_ (s_fieldAddr (x:=v) (m:=k0) (k0:=k0) (O:=O + o) (henv s o hlo hs) (fldB_ok hF) (.inl rfl) (Nat.le_refl _) hk (by omega) (by omega) fun a1 hp1 hg1=>?_)
    refine df_items r _ wr (n + 3) a1 w cur K h (fun s' o' hs' hs0=>?_) (by omega) (by rw [hp1.size];exact hn') hB hO (fun a' w' hd=>hK a' w' (hd.trans hp1.defers))
    by_cases he:s'=v
    ·subst he
     rw [List.lookup_cons_self] at hs'
     obtain rfl:=Option.some.inj hs'
     rw [hg1,Nat.add_assoc]
    ·rw [List.lookup_cons,show (s' == v)=false by simpa using he] at hs'
     rw [hp1.get s' he (.inl hs0)]
     exact henv s' o' hs' hs0
   ·cases h
  ·cases h
 | .st s T k F c :: r,env,wr,n,a,w,cur,K,h,henv,hk,hn,hB,hO,hK=>by
  have hup:n + 3<=(gL (r.map gDI) (n + 3)).2:=up_list (fun x hx=>by
   obtain ⟨d,_,rfl⟩:=List.mem_map.1 hx
   cases d <;> exact qq_ _ _) _
  have hn':(gL (r.map gDI) (n + 3)).2<=a.tmps.size:=hn
  unfold dRun at h
  split at h
  ·rename_i o hlo
   split at h
   ·rename_i hc
    simp only [Bool.and_eq_true,decide_eq_true_eq] at hc
    obtain ⟨⟨hone,hF⟩,hs⟩:=hc
    obtain ⟨h1,h2⟩:=oneB_ok hone
    have hF':=fldB_ok hF
    cases hr:dRun P k0 r env with
    | none=>rw [hr] at h;cases h
    | some wr'=>
     rw [hr] at h
     obtain rfl:=Option.some.inj h
     have hO1:O + (o + offT P T k) < cur.size:=hO (o + offT P T k,c) (List.mem_cons_self ..)
     refine qj_ (qw_ (qg_ ?_))
     rw [qb_,henv s o hlo hs]
     refine q0_ (by rw [qb_,gpe (by omega)];rfl) ?_
     refine z1_ (by rw [qb_,gpe (by simp only [qa_];omega)]) hF' ?_
     refine j5_ (cur:=cur) (t:=te) (v:=c) (vs:=[c]) (by rw [qb_,gpe (by simp only [qa_];omega)]) rfl (by rw [h2]) (hF'.var.size _) hB (by simp only [List.length_cons,List.length_nil];omega) (fun u hu=>by simp at hu;rw [hu];exact h1) (wpList_nil ?_)
     rw [Nat.add_assoc,splice_one hO1]
     refine df_items r env wr' (n + 3) _ _ (cur.setIfInBounds (O + (o + offT P T k)) c) K hr (fun s' o' hs' hs0=>?_) (by omega) (by simp only [qa_];exact hn') (setRow_heap _ _ _ _ _ _ hB) (fun p hp=>by simpa using hO p (by simp [hp])) fun a' w' hd hk' hB'=>?_
     ·rw [gpo (by omega),gpo (by omega),gpo (by omega)]
      exact henv s' o' hs' hs0
     ·exact hK a' w' (by rw [hd];simp only [qh_]) ((qc_.setRow (fun k=>k=B) w B (cur.setIfInBounds (O + (o + offT P T k)) c) rfl).trans hk') hB'
   ·cases h
  ·cases h
end
theorem get_args (args:Array Value) (n i:Nat) (h:i < args.size):({ tmps:=args++Array.replicate (n - args.size) undef,defers:=[] }:Act).get i=args[i]:=by
 simp [Act.get,Array.getElem?_append_left h,h]
theorem size_args (args:Array Value) (n:Nat) (h:args.size<=n):(args++Array.replicate (n - args.size) undef).size=n:=by
 simp;omega
theorem dfC_of {P:Program} (hm:P.follows .mixedOrders=true) {f ntmps n0:Nat} {items:List DI} {wr:List (Nat × Value)} (h:FnIs P f ntmps [] (gDflt items n0)) (hr:dRun P n0 items [(0,0)]=some wr) (hn:(gL (items.map gDI) n0).2<=ntmps) (h0:0 < n0):Ent P f/\DfC P f wr:=by
 refine ⟨h.ent,fun w B O cur te hB hO=>h.calls hm (by simp) ?_⟩
 have hup:n0<=(gL (items.map gDI) n0).2:=up_list (fun x hx=>by
   obtain ⟨d,_,rfl⟩:=List.mem_map.1 hx
   cases d <;> exact qq_ _ _) _
 have hs:=size_args #[pt B O] ntmps (by show 1<=ntmps;omega)
 refine rt_mono (zg_ (df_items items [(0,0)] wr n0 _ w cur (fun a w'=>a.defers=[]/\qc_ (·=B) w w'/\w'.heap[B]?=some (.cells (applyWr cur O wr) te (0,0))) hr (fun s o hso hs0=>?_) (Nat.le_refl _) (by rw [hs];exact hn) hB hO fun a' w' hd hk hB'=>⟨hd,hk,hB'⟩)) (fun a w' hh=>⟨hh.1,rfl,hh.2⟩) (fun a w' hh=>hh.elim)
 rw [List.lookup_cons] at hso
 split at hso
 ·rename_i he
  obtain rfl:=Option.some.inj hso
  have:s=0:=by simpa using he
  subst this
  rw [get_args _ _ _ (by simp)]
  rfl
 ·simp at hso
inductive DT where
 | it (d:DI)
 | blk (l:List DI)
def gDT:DT->GC
 | .it d=>gDI d
 | .blk l=>gS (l.map gDI)
def dtF:List DT->List DI
 | []=>[]
 | .it d :: r=>d :: dtF r
 | .blk l :: r=>l++dtF r
def gDfltT (items:List DT) (n0:Nat):Code:=(gS (items.map gDT) n0).1
section
variable {P:Program}
theorem nwp_sq_split {cs ds:List Code} {Q:Exit->Act->World->Prop}:∀ {a:Act} {w:World},NWP P (sq (cs++ds)) Q a w->NWP P (sq cs) (Exit.then (NWP P (sq ds) Q) Q) a w:=by
 induction cs with
 | nil=>intro a w h;exact .skip h
 | cons c cs ih=>
  intro a w h
  cases hcd:cs++ds with
  | nil=>
   obtain ⟨rfl,rfl⟩:=List.append_eq_nil_iff.1 hcd
   exact .mono h fun e a w hq=>by
    cases e with
    | normal=>exact .skip hq
    | _=>exact hq
  | cons d r=>
   have h':NWP P (.seq c (sq (cs++ds))) Q a w:=by
    rw [List.cons_append,hcd] at h
    rw [hcd]
    exact h
   obtain ⟨R,h1,h2,h3⟩:=nwp_seq_inv h' _ _ rfl
   refine qm_ (.mono h1 fun e a w hr=>?_)
   cases e with
   | normal=>exact ih (h2 a w hr)
   | _=>exact h3 _ a w (by simp) hr
theorem then_mono {K K':Act->World->Prop} {Q:Exit->Act->World->Prop} (h:∀ a w,K a w->K' a w) (e:Exit) (a:Act) (w:World) (hq:Exit.then K Q e a w):Exit.then K' Q e a w:=by
 cases e with
 | normal=>exact h a w hq
 | _=>exact hq
theorem dt_LW:∀ (items:List DT) {n:Nat} {Q:Exit->Act->World->Prop} {a:Act} {w:World},LW P ((dtF items).map gDI) n Q a w->LW P (items.map gDT) n Q a w
 | [],_,_,_,_,h=>h
 | .it d :: r,n,Q,a,w,h=>by
  refine qj_ (.mono (nwp_sq_split (cs:=[(gDI d n).1]) h) ?_)
  exact then_mono fun a w hr=>dt_LW r hr
 | .blk l :: r,n,Q,a,w,h=>by
  have h':NWP P (sq ((gL (l.map gDI) n).1++(gL ((dtF r).map gDI) (gL (l.map gDI) n).2).1)) Q a w:=by
   have h0:NWP P (sq (gL ((l++dtF r).map gDI) n).1) Q a w:=h
   rwa [List.map_append,jf_] at h0
  exact qj_ (.mono (nwp_sq_split h') (then_mono fun a w hr=>dt_LW r hr))
end
theorem dfC_ofT {P:Program} (hm:P.follows .mixedOrders=true) {f ntmps n0:Nat} {items:List DT} {wr:List (Nat × Value)} (h:FnIs P f ntmps [] (gDfltT items n0)) (hr:dRun P n0 (dtF items) [(0,0)]=some wr) (hn:(gL ((dtF items).map gDI) n0).2<=ntmps) (h0:0 < n0):Ent P f/\DfC P f wr:=by
 refine ⟨h.ent,fun w B O cur te hB hO=>h.calls hm (by simp) ?_⟩
 have hup:n0<=(gL ((dtF items).map gDI) n0).2:=up_list (fun x hx=>by
   obtain ⟨d,_,rfl⟩:=List.mem_map.1 hx
   cases d <;> exact qq_ _ _) _
 have hs:=size_args #[pt B O] ntmps (by show 1<=ntmps;omega)
 refine rt_mono (zg_ (dt_LW items (df_items (dtF items) [(0,0)] wr n0 _ w cur (fun a w'=>a.defers=[]/\qc_ (·=B) w w'/\w'.heap[B]?=some (.cells (applyWr cur O wr) te (0,0))) hr (fun s o hso hs0=>?_) (Nat.le_refl _) (by rw [hs];exact hn) hB hO fun a' w' hd hk hB'=>⟨hd,hk,hB'⟩))) (fun a w' hh=>⟨hh.1,rfl,hh.2⟩) (fun a w' hh=>hh.elim)
 rw [List.lookup_cons] at hso
 split at hso
 ·rename_i he
  obtain rfl:=Option.some.inj hso
  have:s=0:=by simpa using he
  subst this
  rw [get_args _ _ _ (by simp)]
  rfl
 ·simp at hso
def Blk (w:World) (B n te:Nat):Prop:=∃ cur,w.heap[B]?=some (.cells cur te (0,0))/\n<=cur.size
theorem Blk.evo {R B n te:Nat} {Z:Nat->Prop} {w w':World} (h:Evo R B Z w w') (hb:Blk w B n te):Blk w' B n te:=by
 obtain ⟨cur,h1,h2⟩:=hb
 obtain ⟨cs,h3,h4,_⟩:=h.blk cur te h1
 exact ⟨cs,h3,by omega⟩
section evo
variable {A:Nat->Prop} {S R B O n te:Nat} {Z:Nat->Prop} {w w':World}
end evo
section
variable (P:Program) (g:G) (av:PF->Bool) (fl:Bool) (D:Nat->Option (List (Nat × Value)))
end
section
variable {P:Program} {g:G} {av:PF->Bool} {fl:Bool} {D:Nat->Option (List (Nat × Value))}
end
section
variable {P:Program} {g:G} {av:PF->Bool} {fl:Bool} {D:Nat->Option (List (Nat × Value))}
theorem Evo.inner {R B R':Nat} {Z Z':Nat->Prop} {w w1 w2:World} (h:Evo R B Z w w1) (k:Evo R' B Z' w1 w2) (hR':w.heap.size<=R'):Evo R B (fun j=>Z j \/ Z' j) w w2:=by
 refine ⟨⟨k.keeps.os.trans h.keeps.os,k.keeps.tape.trans h.keeps.tape,k.keeps.output.trans h.keeps.output,Nat.le_trans h.keeps.size k.keeps.size,fun i hi hx=>?_⟩,fun cs te hc=>?_⟩
 ·rw [k.keeps.block i (Nat.lt_of_lt_of_le hi h.keeps.size) (fun hh=>by rcases hh with rfl | rfl;omega;exact hx (.inr rfl)),h.keeps.block i hi hx]
 ·obtain ⟨c1,h1,h2,h3⟩:=h.blk cs te hc
  obtain ⟨c2,k1,k2,k3⟩:=k.blk c1 te h1
  exact ⟨c2,k1,k2.trans h2,fun j hj=>(k3 j fun hh=>hj (.inr hh)).trans (h3 j fun hh=>hj (.inl hh))⟩
def inner (r:RS):RS:=⟨(rSpan (rUv r).1 (rUv r).2).1.octets,false,(rSpan (rUv r).1 (rUv r).2).1.isNul⟩
def behind (r:RS):RS:=(rSpan (rUv r).1 (rUv r).2).2
end
section
variable (P:Program) (g:G) (av:PF->Bool) (fl:Bool) (D:Nat->Option (List (Nat × Value)))
end
section
variable {P:Program} {g:G} {av:PF->Bool} {fl:Bool} {D:Nat->Option (List (Nat × Value))}
end
def TgNil (w:World) (B O:Nat) (toff:Option Nat):Prop:=match toff with | some k=>w.cell? ⟨B,O + k,none⟩=some (.map none) | none=>True
theorem TgNil.at {w:World} {B O:Nat} {toff:Option Nat} (h:TgNil w B O toff) (X:Nat->Prop):TgAt w X B O toff []:=by
 cases toff with
 | none=>rfl
 | some k=>exact ⟨_,h,.inl ⟨rfl,rfl⟩⟩
section
variable (P:Program) (g:G) (av:PF->Bool) (fl:Bool) (D:Nat->Option (List (Nat × Value)))
end
section
variable {P:Program} {g:G} {av:PF->Bool} {fl:Bool} {D:Nat->Option (List (Nat × Value))}
end
end Go.Proofs.Ytbgklecbmhaadaa.Kx
