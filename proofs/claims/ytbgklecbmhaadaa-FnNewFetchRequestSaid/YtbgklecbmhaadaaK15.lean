/-
  PLAIN LAWS AND CONTRACTS of messages, part 15 of 18: how readers and writers are printed, what they do, what the reference writes, and that what is written is read as the same. Nothing of a statement stands here.
-/
import Derived.Test.YtbgklecbmhaadaaK1
import Derived.Test.YtbgklecbmhaadaaK2
import Derived.Test.YtbgklecbmhaadaaK3
import Derived.Test.YtbgklecbmhaadaaK6
import Derived.Test.YtbgklecbmhaadaaK8
import Derived.Test.YtbgklecbmhaadaaK11
import Derived.Test.YtbgklecbmhaadaaK13
import Derived.KernelRfl
import Derived.Laws.IdiomStrings

namespace Go.Proofs.Ytbgklecbmhaadaa.Kx
open Go
set_option maxRecDepth 4000
section
variable {P:Program} {S:SN}
theorem va_uuid (C:LeafC P S) {W:World} {w:World} {t:Tr} {B:Nat} {sv lv uv:Value} (hsv:OcRp W sv t.octets) (hk:Fa0 W w) (hB:qf_ w B 0 [.int .i64 t.num,sv,.bool t.null,lv,uv])
  {a:Act} (h:St 70 a [(11,pt B 0)]) {R:Exit->Act->World->Prop} (hR:∀ a' w',(a'.defers=[]/\q6_ S.tU8 (s16 t.octets) W (.returned (a'.get 12)) w')->R .ret a' w') :
  NWP P (.seq (rg (ova_5 S)) (.seq (rg (ova_6 S)) (.seq (rg (ova_7 S)) .ret))) R a w:=by
 have T:=C.tab
 obtain ⟨i,hi,hz,hsz,hby⟩:=T.z8
 have hmk:=run_make (P:=P) w S.tSl S.tU8 i (.int .u8 0) T.oct.und hi hz .i64 .i64 16 16 (by omega) (by omega) (by rw [hby];omega) (by omega)
 have hcur:madeCells (Value.int .u8 0).cells ((16:Int).toNat * i.size)=(List.replicate 16 (jx_ 0)).toArray:=by
  rw [hsz]
  apply Array.ext
  ·simp [madeCells]
  ·intro k h1 h2
   have e1:(List.replicate 16 (jx_ 0)).toArray[k]=jx_ 0:=by rw [List.getElem_toArray,List.getElem_replicate]
   rw [e1]
   simp only [madeCells,Array.getElem_map,Array.getElem_range,Value.cells]
   simp [Nat.mod_one,jx_]
 rw [hcur] at hmk
 refine qt_ (nrg (qp_ (v:=.slice (some ⟨w.heap.size,0,none⟩) 16 16) (w':=w.alloc (.cells (List.replicate 16 (jx_ 0)).toArray S.tU8)) ?_ ?_))
 ·have e:a.eval (ki .i64 16)=.int .i64 16:=rfl
  simp [execOp,mk,e,hmk]
 have h:=h.put (d:=26) (.slice (some ⟨w.heap.size,0,none⟩) 16 16) (by omega)
 have hn:=qk_ w (.cells (List.replicate 16 (jx_ 0)).toArray S.tU8)
 have hk1:qc_ (fun _=>False) w (w.alloc (.cells (List.replicate 16 (jx_ 0)).toArray S.tU8)):=qc_.alloc _ _ _
 generalize w.alloc (.cells (List.replicate 16 (jx_ 0)).toArray S.tU8)=w1 at hn hk1 ⊢
 refine qd_ h (.t rfl) (by omega) fun a h=>wpList_nil ?_
 have hs1:=hsv.far (hk.kn hk1)
 obtain ⟨bx,cx,rfl,hat⟩:=hs1.form
 refine qt_ (nrg (qe_ h (.t rfl) (by omega) fun a h=>q1_ h (.t rfl) T.t1 (by omega) fun a h=>qu_ h (.t rfl) T.t1.var ((qf_.kn hk1 hB).at (j:=1) rfl) (by omega) fun a h=>?_))
 have hlen16:(t.octets.take 16).length=min t.octets.length 16:=by rw [List.length_take,Nat.min_comm]
 obtain ⟨x,w2,hrun,hw2,hk2⟩:∃ x w2,(Builtin.copy_ #[S.tSl,S.tSl] S.tInt #[.slice (some ⟨w.heap.size,0,none⟩) 16 16,.slice bx t.octets.length cx]).run P w1=.ok x w2/\w2.heap[w.heap.size]?=some (.cells ((s16 t.octets).map jx_).toArray S.tU8 (0,0))/\qc_ (fun k=>k=w.heap.size) w1 w2:=by
  rcases hat with h0 | ⟨b,o,rfl,hat⟩
  ·refine ⟨_,_,run_copy_nil T.oct.und T.vU8.size (by rw [h0];rfl),?_,qc_.refl _ _⟩
   rw [hn,h0]
   simp [s16]
  ·refine ⟨_,_,run_copy_row (cs:=(t.octets.take 16).map jx_) T.oct.und T.vU8.size (by rw [List.length_map,hlen16]) (fun j v hj=>?_) hn (by rw [List.length_map,hlen16,List.size_toArray,List.length_replicate];omega) oct_one,?_,qc_.setRow _ _ _ _ rfl⟩
   ·rw [List.getElem?_map,Option.map_eq_some_iff] at hj
    obtain ⟨y,hy,rfl⟩:=hj
    rw [List.getElem?_take] at hy
    split at hy
    ·rw [Addr.add_lit];exact hat j y hy
    ·cases hy
   ·rw [setRow_heap _ _ _ _ _ _ hn]
    congr 2
    simp only [q4_,s16,List.take_zero,List.nil_append,Nat.zero_add,List.map_append,List.length_map,List.map_replicate]
    congr 2
    rw [List.drop_replicate,hlen16]
    congr 1
    omega
 have hex:(execOp a.eval (bi (some 30) .copy [tm 27,tm 29] [S.tSl,S.tSl] S.tInt)).run P w1=.ok (.value x) w2:=by
  simp [execOp,bi,resolve,invoke,builtin,Hd.t (l:=_) (i:=27) rfl 70 a h,Hd.t (l:=_) (i:=29) rfl 70 a h,hrun]
 refine st_bi h hex (by omega) fun a h=>wpList_nil ?_
 refine qt_ (nrg (qe_ h (.t rfl) (by omega) fun a h=>qd_ h (.t rfl) (by omega) fun a h=>wpList_nil (.ret (hR _ _ ⟨h.defers,.slice (some ⟨w.heap.size,0,none⟩) 16 16,by rw [h.get 12 _ rfl],?_,?_⟩))))
 ·exact .inr ⟨w.heap.size,16,((s16 t.octets).map jx_).toArray,by rw [s16_len],hk.size,hw2,by rw [s16_len];omega,by simp [maxLen],by simp [s16_len],fun i x hx=>by simp [hx]⟩
 ·exact Fa0.keeps ((hk.kn hk1).up hk2 fun i hi=>by subst hi;exact hk.size)
def ValC (P:Program) (S:SN) (sub:SFs):Prop:=∀ (w:World) (kind:Nat) (null:Bool) (ver:Int) (fx:Bool) (k:Nat) (cs:List Value) (t:Tr) (fv:Value),FsRp w sub fv->TrRp w k cs t->(sVal kind null fx (jd_ ver fx sub) t).length<=LIM ->
 Calls P S.fVal [.int .i64 (kind:Int),fv,.bool null,.int .i64 ver,.bool fx,.agg cs.toArray].toArray w (q6_ S.tU8 (sVal kind null fx (jd_ ver fx sub) t) w)
theorem va_calls (C:LeafC P S) (hfn:FnIs P S.fVal 70 [12] (csVa S)) (hPE:Ent P S.fPart) {sub:SFs} (hP:PartC P S sub):ValC P S sub:=by
 intro W kind null ver fx k cs t fv hfs ht hlim
 have T:=C.tab
 have ht0:=ht
 cases k with
 | zero=>exact ht.elim
 | succ k=>
 obtain ⟨sv,lv,uv,rfl,hsv,hlv,huv⟩:=ht
 refine z0_ T.mixed hfn (by simp) _ (by simp) fun a h=>?_
 unfold csVa
 refine qt_ (nrg (st_box h (.t rfl) (by omega) fun a h=>?_))
 have hk:qc_ (fun _=>False) W (W.alloc (.cells [.int .i64 t.num,sv,.bool t.null,lv,uv].toArray S.tT (0,0))):=qc_.alloc _ _ _
 have hB:=jn_ W [.int .i64 t.num,sv,.bool t.null,lv,uv] S.tT
 generalize W.alloc (.cells [.int .i64 t.num,sv,.bool t.null,lv,uv].toArray S.tT (0,0))=w at hk hB ⊢
 have hf:Fa0 W w:=Fa0.of hk
 refine qd_ h .c (by omega) fun a h=>wpList_nil ?_
 have h:St 70 a [(0,.int .i64 (kind:Int)),(1,fv),(2,.bool null),(3,.int .i64 ver),(4,.bool fx),(11,pt W.heap.size 0)]:=h.pick ⟨rfl,rfl,rfl,rfl,rfl,rfl,trivial⟩
 have fin:∀ (a':Act) (w':World),(a'.defers=[]/\q6_ S.tU8 (sVal kind null fx (jd_ ver fx sub) t) W (.returned (a'.get 12)) w')->(a'.defers=[]/\q6_ S.tU8 (sVal kind null fx (jd_ ver fx sub) t) W (.returned (js_ [12] a')) w'):=fun a' w' hh=>hh
 refine qt_ (qt_ (nrg (qe_ h (.t rfl) (by omega) fun a h=>wpList_nil ?_)))
 refine .block (qt_ (nrg (q2_ h rfl (.t rfl) .i (by omega) fun a h=>qd_ h (.t rfl) (by omega) fun a h=>wpList_nil ?_)))
 refine ja_ h rfl (fun hb=>?_) (fun hb=>?_)
 ·-- a bool
  have hkd:kind=0:=by simp [qz_] at hb;omega
  subst hkd
  refine qt_ (nrg (q1_ h (.t rfl) T.t0 (by omega) fun a h=>qu_ h (.t rfl) T.t0.var (hB.at (j:=0) rfl) (by omega) fun a h=>j2_ h (.t rfl) .i (by simp) (run_and1 w) (by omega) fun a h=>st_conv h (.t rfl) T.dI64 T.dU8 (by omega) fun a h=>?_))
  have hw:(Value.int .u8 (IntKind.u8.wrap (t.num % 2)))=jx_ (UInt8.ofNat (t.num % 2).toNat):=by
   have e:IntKind.u8.wrap (t.num % 2)=(((t.num % 2).toNat:Nat):Int):=by simp [IntKind.wrap,IntKind.bits,IntKind.signed];omega
   rw [e,octv_wrap (by omega)]
  rw [hw] at h
  refine st_row1 h T.oct (.t rfl) (by omega) fun v a hd h=>qd_ h (.t rfl) (by omega) fun a h=>wpList_nil (.ret ?_)
  refine ret1 (RR:=q6_ S.tU8 (sVal 0 null fx (jd_ ver fx sub) t) W) h rfl (mk_of ?_ (hf.kn (qc_.alloc _ _ _)))
  exact (Gr.lower (L':=W.heap.size) hk.size (Gr.refl hd)).dst
 have h0:kind ≠ 0:=by simp [qz_] at hb;omega
 refine qt_ (nrg (q2_ h rfl (.t rfl) .i (by omega) fun a h=>qd_ h (.t rfl) (by omega) fun a h=>wpList_nil ?_))
 refine ja_ h rfl (fun hb=>?_) (fun hb=>?_)
 ·have hkd:kind=7:=by simp [qz_] at hb;omega
  subst hkd
  exact va_uuid C hsv hf hB (h.pick ⟨rfl,trivial⟩) fun a' w' hh=>fin a' w' hh
 have h7:kind ≠ 7:=by simp [qz_] at hb;omega
 refine qt_ (nrg (q2_ h rfl (.t rfl) .i (by omega) fun a h=>qd_ h (.t rfl) (by omega) fun a h=>wpList_nil ?_))
 refine ja_ h rfl (fun hb=>?_) (fun hb=>?_)
 ·have hkd:kind=8:=by simp [qz_] at hb;omega
  subst hkd
  exact va_text8 C hsv hf hB hlim (h.pick ⟨rfl,rfl,rfl,trivial⟩) fun a' w' hh=>fin a' w' hh
 have h8:kind ≠ 8:=by simp [qz_] at hb;omega
 refine qt_ (nrg (q2_ h rfl (.t rfl) .i (by omega) fun a h=>qd_ h (.t rfl) (by omega) fun a h=>wpList_nil ?_))
 refine ja_ h rfl (fun hb=>?_) (fun hb=>?_)
 ·have hkd:kind=9:=by simp [qz_] at hb;omega
  subst hkd
  exact va_text9 C hsv hf hB hlim (h.pick ⟨rfl,rfl,rfl,trivial⟩) fun a' w' hh=>fin a' w' hh
 have h9:kind ≠ 9:=by simp [qz_] at hb;omega
 refine qt_ (nrg (q2_ h rfl (.t rfl) .i (by omega) fun a h=>qd_ h (.t rfl) (by omega) fun a h=>wpList_nil ?_))
 refine ja_ h rfl (fun hb=>?_) (fun hb=>?_)
 ·have hkd:kind=10:=by simp [qz_] at hb;omega
  subst hkd
  have e:sVal 10 null fx (jd_ ver fx sub) t=jd_ ver fx sub t:=by simp [sVal]
  rw [e] at hlim fin ⊢
  refine qt_ (nrg (qe_ h (.t rfl) (by omega) fun a h=>qe_ h (.t rfl) (by omega) fun a h=>qe_ h (.t rfl) (by omega) fun a h=>jh_ h (cs:=[.int .i64 t.num,sv,.bool t.null,lv,uv]) (.t rfl) T.vT hB (by omega) fun a h=>?_))
  refine q3_ h hPE (vs:=[fv,.int .i64 ver,.bool fx,.agg [.int .i64 t.num,sv,.bool t.null,lv,uv].toArray]) (fun n a h=>by
   simp only [List.map_cons,List.map_nil]
   rw [Hd.t (l:=_) (i:=60) rfl n a h,Hd.t (l:=_) (i:=61) rfl n a h,Hd.t (l:=_) (i:=62) rfl n a h,Hd.t (l:=_) (i:=63) rfl n a h]) (hP w ver fx (k + 1) _ t fv (hfs.far hf) (ht0.far hf) hlim) (by omega) fun e w' hR=>?_
  obtain ⟨v,rfl,hd,hk2⟩:=hR
  refine ⟨v,rfl,fun a h=>qd_ h (.t rfl) (by omega) fun a h=>wpList_nil (.ret ?_)⟩
  exact ret1 (RR:=q6_ S.tU8 (jd_ ver fx sub t) W) h rfl (mk_of (Gr.lower (L':=W.heap.size) hk.size (Gr.refl hd)).dst (hf.kn hk2))
 have h10:kind ≠ 10:=by simp [qz_] at hb;omega
 have e:sVal kind null fx (jd_ ver fx sub) t=be (jj_ kind) t.num:=by simp [sVal,h0,h7,h8,h9,h10]
 rw [e] at hlim fin ⊢
 refine .skip (qt_ (ndrw [false,false,false,true,true,true] (fun w'=>qf_ w' W.heap.size 0 [.int .i64 t.num,sv,.bool t.null,lv,uv]/\Fa0 W w') (by kernel_rfl) ?_))
 show evF P _ [mk (some 65) (.fieldAddr S.tT (tm 11) 0),mk (some 66) (.load S.tI64 (tm 65)),mk (some 67) (.move (tm 0))] a fun af=>wpLd P _ _ [cl (some 68) S.fWid [(tm 67)],cl (some 69) S.fFix [(tm 66),(tm 68)],mk (some 12) (.assign (tm 69))] af w.drew
 refine se_fld h (.t rfl) T.t0 (by omega) fun a h=>se_load1 h (.t rfl) T.t0.var (fun w' hI=>hI.1.at (j:=0) rfl) (by omega) fun a h=>ju_ h (.t rfl) (by omega) fun a h=>se_nil ?_
 have hI1:qf_ w.drew W.heap.size 0 [.int .i64 t.num,sv,.bool t.null,lv,uv]/\Fa0 W w.drew:=⟨qf_.kn (qc_.drew _ _) hB,hf.kn (qc_.drew _ _)⟩
 refine jp_ h hI1 C.widE (vs:=[.int .i64 (kind:Int)]) (fun n a h=>by
  simp only [List.map_cons,List.map_nil]
  rw [Hd.t (l:=_) (i:=67) rfl n a h]) (C.widC kind w.drew) (by omega) fun e w' hR=>?_
 obtain ⟨rfl,rfl⟩:=hR
 have hw8:jj_ kind<=8:=by
  simp only [jj_]
  repeat' split
  all_goals omega
 refine ⟨_,rfl,fun a h=>jp_ h hI1 C.fixE (vs:=[.int .i64 t.num,.int .i64 (jj_ kind:Int)]) (fun n a h=>by
  simp only [List.map_cons,List.map_nil]
  rw [Hd.t (l:=_) (i:=66) rfl n a h,Hd.t (l:=_) (i:=68) rfl n a h]) (C.fixC t.num _ w.drew hw8) (by omega) fun e w' hR=>?_⟩
 obtain ⟨v,rfl,hd,hk2⟩:=hR
 refine ⟨v,rfl,fun a h=>sl_assign h ⟨qf_.kn hk2 hI1.1,hI1.2.kn hk2⟩ (.t rfl) (by omega) fun a h=>sl_nil ⟨qf_.kn hk2 hI1.1,hI1.2.kn hk2⟩ (.ret ?_)⟩
 exact ret1 (RR:=q6_ S.tU8 (be (jj_ kind) t.num) W) h rfl (mk_of (Gr.lower (L':=W.heap.size) hI1.2.size (Gr.refl hd)).dst (hI1.2.kn hk2))
end
end Go.Proofs.Ytbgklecbmhaadaa.Kx

namespace Go.Proofs.Ytbgklecbmhaadaa.Kx
open Go
set_option maxRecDepth 4000
section
variable {P:Program} {S:SN}
def FldC (P:Program) (S:SN) (sub:SFs):Prop:=∀ (w:World) (kind:Nat) (lo hi nul tag df:Int) (of:Nat) (sv:Value) (ver:Int) (fx:Bool) (k:Nat) (cs:List Value) (t:Tr),FsRp w sub sv->TrRp w k cs t->(sFld kind nul of ver fx (jd_ ver fx sub) t).length<=LIM ->
 Calls P S.fField [.agg (qr_ kind lo hi nul tag df of sv).toArray,.int .i64 ver,.bool fx,.agg cs.toArray].toArray w (q6_ S.tU8 (sFld kind nul of ver fx (jd_ ver fx sub) t) w)
theorem drop_flat (g:Tr->Bs) {xs:List Tr} {i:Nat} {x:Tr} (h:xs[i]?=some x):((xs.drop i).map g).flatten=g x++((xs.drop (i + 1)).map g).flatten:=by
 have hlt:=(List.getElem?_eq_some_iff.1 h).1
 rw [List.drop_eq_getElem_cons hlt,(List.getElem?_eq_some_iff.1 h).2]
 simp
theorem fl_loop (C:LeafC P S) (hVE:Ent P S.fVal) {sub:SFs} (hV:ValC P S sub) {W:World} {kind:Nat} {lo hi nul tag df:Int} {of:Nat} {sv:Value} {ver:Int} {fx:Bool} {k B:Nat} {xs:List Tr} {lv:Value} (hfs:FsRp W sub sv) (hxs:RowRp W 5 (TrRp W k) lv xs) (hB:qf_ W B 0 (qr_ kind lo hi nul tag df of sv))
  {total:Bs} (hlim:total.length<=LIM) {w:World} (hk:Fa0 W w) {v:Value} {bs:Bs} (hd:qv_ w W.heap.size S.tU8 v bs) (htot:bs++(xs.map (sVal of false fx (jd_ ver fx sub))).flatten=total) {a:Act} (h:St 76 a [(1,.int .i64 ver),(2,.bool fx),(4,pt B 0),(10,lv),(11,v)]) {R:Exit->Act->World->Prop}
  (hR:∀ a' w' v',a'.defers=[]->a'.get 8=v'->qv_ w' W.heap.size S.tU8 v' total->Fa0 W w'->R .ret a' w') :
  NWP P (.seq (.seq (rg (ofl_7 S)) (.block 0 (.loop (.seq (rg (ofl_8 S)) (.seq (.cond (tm 32) .skip (.exit 0)) (.seq (.block 1 (.seq (rg (ofl_9 S)) (.region 1 (ofl_10 S).toArray true))) (rg (ofl_11 S)))))))) (.seq (rg (ofl_12 S)) .ret)) R a w:=by
 have T:=C.tab
 obtain ⟨bx,cx,hlv,_,hxm,_⟩:=hxs.form
 refine qt_ (qt_ (nrg (qe_ h (.t rfl) (by omega) fun a h=>?_)))
 have h':=h
 rw [hlv] at h'
 refine zd_ h' (.t rfl) T.dTs (by omega) fun a h=>qe_ h .i (by omega) fun a h=>wpList_nil ?_
 rw [<- hlv] at h
 refine z2_ (fun m a' w'=>∃ (i:Nat) (v:Value) (bs:Bs),i + m=xs.length/\bs++((xs.drop i).map (sVal of false fx (jd_ ver fx sub))).flatten=total/\qv_ w' W.heap.size S.tU8 v bs/\Fa0 W w' /\
   St 76 a' [(1,.int .i64 ver),(2,.bool fx),(4,pt B 0),(10,lv),(11,v),(30,.int .i64 (xs.length:Int)),(31,.int .i64 (i:Int))]) xs.length
  ⟨xs.length,Nat.le_refl _,0,v,bs,by omega,by simpa using htot,hd,hk,h.pick ⟨rfl,rfl,rfl,rfl,rfl,rfl,rfl,trivial⟩⟩ ?_
 rintro m a w hm ⟨i,v,bs,him,htot,hd,hk,h⟩
 refine qt_ (nrg (q2_ h rfl (.t rfl) (.t rfl) (by omega) fun a h=>wpList_nil ?_))
 refine st_test h rfl (fun hb=>?_) (fun hb=>?_)
 ·have hlt:i < xs.length:=by simp [qz_] at hb;omega
  obtain ⟨x,hx⟩:∃ x,xs[i]?=some x:=⟨_,List.getElem?_eq_getElem hlt⟩
  obtain ⟨b,o,c,cs,hv,hl5,hcs,htx⟩:=hxs.get hx
  rw [drop_flat _ hx] at htot
  refine .skip (qt_ (.block (qt_ (nrg (qe_ h (.t rfl) (by omega) fun a h=>qd_ h (.t rfl) (by omega) fun a h=>wpList_nil ?_)))))
  refine ndrw [false,false,false,false,false,false,false,false,false,false,false,true,true,true] (fun w'=>Fa0 W w') (by kernel_rfl) ?_
  show evF P _ [mk (some 34) (.move (tm 11)),mk (some 35) (.fieldAddr S.tF (tm 4) 6),mk (some 36) (.load S.tInt (tm 35)),mk (some 37) (.fieldAddr S.tF (tm 4) 7),mk (some 38) (.load S.tFs (tm 37)),mk (some 39) (.move (tm 1)),mk (some 40) (.move (tm 2)),mk (some 41) (.move (tm 10)),mk (some 42) (.move (tm 12)),mk (some 43) (.indexAddr S.tTs (tm 41) (tm 42)),mk (some 44) (.load S.tT (tm 43))] a
   fun af=>wpLd P _ _ [cl (some 45) S.fVal [(tm 36),(tm 38),(.const (.bool false)),(tm 39),(tm 40),(tm 44)],bi (some 46) .append [(tm 34),(tm 45)] [S.tSl,S.tSl] S.tSl,mk (some 11) (.assign (tm 46))] af w.drew
  refine ju_ h (.t rfl) (by omega) fun a h=>se_fld h (.t rfl) T.f6 (by omega) fun a h=>se_load1 h (.t rfl) T.f6.var (fun w' hI=>Fa0.cell hI (hB.at (j:=6) rfl)) (by omega) fun a h=>se_fld h (.t rfl) T.f7 (by omega) fun a h=>se_load1 h (.t rfl) T.f7.var (fun w' hI=>Fa0.cell hI (hB.at (j:=7) rfl)) (by omega) fun a h=>?_
  refine ju_ h (.t rfl) (by omega) fun a h=>ju_ h (.t rfl) (by omega) fun a h=>ju_ h (.t rfl) (by omega) fun a h=>ju_ h (.t rfl) (by omega) fun a h=>?_
  have h':=h
  rw [hv] at h'
  refine se_index h' (sz:=5) (.t rfl) (.t rfl) hlt T.dTs T.vT.size (by omega) fun a h=>se_loadN h (cs:=cs) (.t rfl) (by rw [hl5];exact T.vT) (fun w' hI=>Fa0.cells hI hcs) (by omega) fun a h=>se_nil ?_
  have hk1:Fa0 W w.drew:=hk.kn (qc_.drew _ _)
  have hd1:qv_ w.drew W.heap.size S.tU8 v bs:=hd.keep (qc_.drew (fun _=>False) _) fun _ _ h=>h
  have hlen:bs.length + (sVal of false fx (jd_ ver fx sub) x).length<=LIM:=by
   have:=congrArg List.length htot
   simp only [List.length_append] at this
   omega
  refine jp_ h hk1 hVE (vs:=[.int .i64 (of:Int),sv,.bool false,.int .i64 ver,.bool fx,.agg cs.toArray]) (fun n a h=>by
   simp only [List.map_cons,List.map_nil]
   rw [Hd.t (l:=_) (i:=36) rfl n a h,Hd.t (l:=_) (i:=38) rfl n a h,Hd.t (l:=_) (i:=39) rfl n a h,Hd.t (l:=_) (i:=40) rfl n a h,Hd.t (l:=_) (i:=44) rfl n a h];rfl) (hV w.drew of false ver fx k cs x sv (hfs.far hk1) (htx.far hk1) (by omega)) (by omega) fun e w2 hR2=>?_
  obtain ⟨u,rfl,hu,hk2⟩:=hR2
  have hk3:=hk1.kn hk2
  refine ⟨u,rfl,fun a h=>sl_app h hk3 T.oct (.t rfl) (.t rfl) (hd1.keep hk2 fun _ _ h=>h) (src_dst T.oct hu) hk3.size hlen (by omega) fun v3 w3 a hg h=>?_⟩
  have hk4:Fa0 W w3:=hk3.up hg.keeps fun j hj=>(hd1.own hj).1
  refine sl_assign h hk4 (.t rfl) (by omega) fun a h=>sl_nil hk4 ?_
  refine nrg (j2_ h (.t rfl) .i (by simp) (j0_ w3) (by omega) fun a h=>?_)
  have hw:IntKind.i64.wrap ((i:Int) + 1)=((i + 1:Nat):Int):=by simp only [maxLen] at hxm;simp [IntKind.wrap,IntKind.bits,IntKind.signed];omega
  rw [hw] at h
  refine qe_ h (.t rfl) (by omega) fun a h=>wpList_nil ?_
  refine ⟨m - 1,by omega,by omega,i + 1,v3,bs++sVal of false fx (jd_ ver fx sub) x,by omega,by rw [List.append_assoc];exact htot,hg.dst,hk4,?_⟩
  have h:=h.pick (m:=[(1,.int .i64 ver),(2,.bool fx),(4,pt B 0),(10,.slice (some ⟨b,o,none⟩) xs.length c),(11,v3),(30,.int .i64 (xs.length:Int)),(31,.int .i64 ((i + 1:Nat):Int))]) ⟨rfl,rfl,rfl,rfl,rfl,rfl,rfl,trivial⟩
  rw [hv]
  exact h
 ·have hge:¬ i < xs.length:=by simp [qz_] at hb;omega
  rw [List.drop_of_length_le (by omega)] at htot
  simp only [List.map_nil,List.flatten_nil,List.append_nil] at htot
  subst htot
  refine .exit ?_
  show NWP P _ _ a w
  refine qt_ (nrg (qe_ h (.t rfl) (by omega) fun a h=>qd_ h (.t rfl) (by omega) fun a h=>wpList_nil (.ret (hR _ _ v h.defers (h.get 8 v rfl) hd hk))))
theorem fl_calls (C:LeafC P S) (hfn:FnIs P S.fField 76 [8] (csFl S)) (hPE:Ent P S.fPart) (hVE:Ent P S.fVal) {sub:SFs} (hP:PartC P S sub) (hV:ValC P S sub):FldC P S sub:=by
 intro W kind lo hi nul tag df of sv ver fx k cs t hfs ht hlim
 have T:=C.tab
 have ht0:=ht
 cases k with
 | zero=>exact ht.elim
 | succ k=>
 obtain ⟨tsv,tlv,tuv,rfl,hsv,hlv,huv⟩:=ht
 refine z0_ T.mixed hfn (by simp) _ (by simp) fun a h=>?_
 unfold csFl
 refine qt_ (nrg (st_box h (cs:=qr_ kind lo hi nul tag df of sv) (.t rfl) (by omega) fun a h=>?_))
 have hk1:qc_ (fun _=>False) W (W.alloc (.cells (qr_ kind lo hi nul tag df of sv).toArray S.tF (0,0))):=qc_.alloc _ _ _
 have hc1:=jn_ W (qr_ kind lo hi nul tag df of sv) S.tF
 generalize W.alloc (.cells (qr_ kind lo hi nul tag df of sv).toArray S.tF (0,0))=w1 at hk1 hc1 ⊢
 refine st_box h (cs:=[.int .i64 t.num,tsv,.bool t.null,tlv,tuv]) (.t rfl) (by omega) fun a h=>qd_ h .c (by omega) fun a h=>wpList_nil ?_
 have hk2:qc_ (fun _=>False) w1 (w1.alloc (.cells [.int .i64 t.num,tsv,.bool t.null,tlv,tuv].toArray S.tT (0,0))):=qc_.alloc _ _ _
 have hc2:=jn_ w1 [.int .i64 t.num,tsv,.bool t.null,tlv,tuv] S.tT
 generalize w1.alloc (.cells [.int .i64 t.num,tsv,.bool t.null,tlv,tuv].toArray S.tT (0,0))=w2 at hk2 hc2 ⊢
 have hc1:=qf_.kn hk2 hc1
 have hk:=hk1.trans hk2
 refine qt_ (nrg (jh_ h (cs:=qr_ kind lo hi nul tag df of sv) (.t rfl) T.vF hc1 (by omega) fun a h=>qe_ h (.t rfl) (by omega) fun a h=>jh_ h (cs:=[.int .i64 t.num,tsv,.bool t.null,tlv,tuv]) (.t rfl) T.vT hc2 (by omega) fun a h=>?_))
 have hnull:=C.nullC kind lo hi nul tag df of sv ver t.num t.null tsv tlv tuv w2
 have h:St 76 a [(13,.agg (qr_ kind lo hi nul tag df of sv).toArray),(14,.int .i64 ver),(15,.agg [.int .i64 t.num,tsv,.bool t.null,tlv,tuv].toArray),(1,.int .i64 ver),(2,.bool fx),(4,pt W.heap.size 0),(7,pt w1.heap.size 0),(8,qs_)]:=h.pick ⟨rfl,rfl,rfl,rfl,rfl,rfl,rfl,rfl,trivial⟩
 generalize hF:Value.agg (qr_ kind lo hi nul tag df of sv).toArray=vF at h hnull
 generalize hT:Value.agg [.int .i64 t.num,tsv,.bool t.null,tlv,tuv].toArray=vT at h hnull
 refine q3_ h C.nullE (vs:=[vF,.int .i64 ver,vT]) (fun n a h=>by
  simp only [List.map_cons,List.map_nil]
  rw [Hd.t (l:=_) (i:=13) rfl n a h,Hd.t (l:=_) (i:=14) rfl n a h,Hd.t (l:=_) (i:=15) rfl n a h]) hnull (by omega) fun e w3 hR=>?_
 subst hF hT
 obtain ⟨rfl,hk3⟩:=hR
 refine ⟨_,rfl,fun a h=>qd_ h (.t rfl) (by omega) fun a h=>wpList_nil ?_⟩
 have hc1:=qf_.kn hk3 hc1
 have hc2:=qf_.kn hk3 hc2
 have hk:=hk.trans hk3
 have hf:Fa0 W w3:=Fa0.of hk
 have hfs3:=hfs.far hf
 have ht3:=ht0.far hf
 have hsz:=hk.size
 have h:St 76 a [(1,.int .i64 ver),(2,.bool fx),(4,pt W.heap.size 0),(7,pt w1.heap.size 0),(8,qs_),(9,.bool (t.null && sNul nul ver))]:=h.pick ⟨rfl,rfl,rfl,rfl,rfl,rfl,trivial⟩
 clear hk1 hk2
 have fin:∀ (a':Act) (w':World) (v:Value) (bs:Bs),a'.defers=[]->a'.get 8=v->qv_ w' w3.heap.size S.tU8 v bs->Fa0 w3 w'->bs=sFld kind nul of ver fx (jd_ ver fx sub) t->(a'.defers=[]/\q6_ S.tU8 (sFld kind nul of ver fx (jd_ ver fx sub) t) W (.returned (js_ [8] a')) w'):=fun a' w' v bs h1 h2 h3 h4 h5=>by
  subst h5
  refine ⟨h1,v,by rw [zf_,h2],(Gr.lower hsz (Gr.refl h3)).dst,?_⟩
  exact (hf.keeps).trans h4.keeps
 refine qt_ (qt_ (nrg (q1_ h (.t rfl) T.f0 (by omega) fun a h=>qu_ h (.t rfl) T.f0.var (hc1.at (j:=0) rfl) (by omega) fun a h=>q2_ h rfl (.t rfl) .i (by omega) fun a h=>wpList_nil ?_)))
 refine ja_ h rfl (fun hb=>?_) (fun hb=>?_)
 ·-- a list
  have hkd:kind=11:=by simp [qz_] at hb;omega
  refine qt_ (nrg (q1_ h (.t rfl) T.t3 (by omega) fun a h=>qu_ h (.t rfl) T.t3.var (hc2.at (j:=3) rfl) (by omega) fun a h=>?_))
  have hlv3:RowRp w3 5 (TrRp w3 k) tlv t.list:=by
   obtain ⟨_,_,_,e,_,h3,_⟩:=ht3
   simp only [List.cons.injEq,true_and,and_true] at e
   rw [e.2.1];exact h3
  refine q3_ h C.thE (vs:=[tlv]) (fun n a h=>by simp only [List.map_cons,List.map_nil];rw [Hd.t (l:=_) (i:=21) rfl n a h]) (C.thC w3 k tlv t.list hlv3) (by omega) fun e w4 hR=>?_
  obtain ⟨lv,rfl,hlv,rfl⟩:=hR
  refine ⟨lv,rfl,fun a h=>qd_ h (.t rfl) (by omega) fun a h=>wpList_nil ?_⟩
  have rest:∀ (a:Act) (x:Value),St 76 a [(1,.int .i64 ver),(2,.bool fx),(4,pt W.heap.size 0),(9,.bool (t.null && sNul nul ver)),(10,x)]->RowRp w4 5 (TrRp w4 k) x (sThings (t.null && sNul nul ver) t) ->
    NWP P (.seq (rg (ofl_6 S)) (.seq (.seq (rg (ofl_7 S)) (.block 0 (.loop (.seq (rg (ofl_8 S)) (.seq (.cond (tm 32) .skip (.exit 0)) (.seq (.block 1 (.seq (rg (ofl_9 S)) (.region 1 (ofl_10 S).toArray true))) (rg (ofl_11 S)))))))) (.seq (rg (ofl_12 S)) .ret))) (Exit.then (NWP P (.seq (.seq (rg (ofl_13 S)) (.cond (tm 56) (.seq (.seq (rg (ofl_14 S)) (.cond (tm 57) (.seq (rg (ofl_15 S)) .ret) .skip)) (.seq (.region 1 (ofl_16 S).toArray true) .ret)) .skip)) (.seq (rg (ofl_17 S)) .ret)) (Rt (fun a' w'=>a'.defers=[]/\q6_ S.tU8 (sFld kind nul of ver fx (jd_ ver fx sub) t) W (.returned (js_ [8] a')) w') (fun a' w'=>a'.defers=[]/\q6_ S.tU8 (sFld kind nul of ver fx (jd_ ver fx sub) t) W (.returned (js_ [8] a')) w'))) (Rt (fun a' w'=>a'.defers=[]/\q6_ S.tU8 (sFld kind nul of ver fx (jd_ ver fx sub) t) W (.returned (js_ [8] a')) w') (fun a' w'=>a'.defers=[]/\q6_ S.tU8 (sFld kind nul of ver fx (jd_ ver fx sub) t) W (.returned (js_ [8] a')) w'))) a w4:=by
   intro a x h hx
   obtain ⟨bx,cx,hxe,_,hxm,_⟩:=hx.form
   have hmost:(sThings (t.null && sNul nul ver) t).length<=zh_:=by
    simp only [sThings]
    split
    ·simp
    ·rw [List.length_take];exact Nat.min_le_left ..
   refine qt_ (nrg (qe_ h (.t rfl) (by omega) fun a h=>qe_ h (.t rfl) (by omega) fun a h=>qe_ h (.t rfl) (by omega) fun a h=>?_))
   have h':=h
   rw [hxe] at h'
   refine zd_ h' (.t rfl) T.dTs (by omega) fun a h=>?_
   rw [<- hxe] at h
   refine q3_ h C.cntE (vs:=[.bool fx,.bool (t.null && sNul nul ver),.int .i64 ((sThings (t.null && sNul nul ver) t).length:Int),.int .i64 ((4:Nat):Int)]) (fun n a h=>by
    simp only [List.map_cons,List.map_nil]
    rw [Hd.t (l:=_) (i:=24) rfl n a h,Hd.t (l:=_) (i:=25) rfl n a h,Hd.t (l:=_) (i:=27) rfl n a h];rfl) (C.cntC fx _ _ 4 w4 hmost (by omega)) (by omega) fun e w5 hR2=>?_
   obtain ⟨v,rfl,hd,hk5⟩:=hR2
   refine ⟨v,rfl,fun a h=>qd_ h (.t rfl) (by omega) fun a h=>wpList_nil ?_⟩
   have e:sFld kind nul of ver fx (jd_ ver fx sub) t=sCnt fx (t.null && sNul nul ver) (sThings (t.null && sNul nul ver) t).length 4++((sThings (t.null && sNul nul ver) t).map (sVal of false fx (jd_ ver fx sub))).flatten:=by
    simp only [sFld,hkd,if_true]
   refine fl_loop C hVE hV hfs3 hx hc1 hlim (Fa0.of hk5) hd e.symm (h.pick ⟨rfl,rfl,rfl,rfl,rfl,trivial⟩) fun a' w' v' h1 h2 h3 h4=>?_
   exact fin a' w' v' _ h1 h2 h3 h4 rfl
  refine qt_ (qt_ (nrg (qe_ h (.t rfl) (by omega) fun a h=>wpList_nil ?_)))
  refine ja_ h rfl (fun hb=>?_) (fun hb=>?_)
  ·refine nrg (qd_ h .c (by omega) fun a h=>wpList_nil ?_)
   exact rest a qs_ (h.pick ⟨rfl,rfl,rfl,rfl,rfl,trivial⟩) (.inl ⟨none,rfl,by simp [sThings,hb]⟩)
  ·refine .skip (rest a lv (h.pick ⟨rfl,rfl,rfl,rfl,rfl,trivial⟩) ?_)
   simp only [sThings,hb,Bool.false_eq_true,if_false]
   exact hlv
 have hk11:kind ≠ 11:=by simp [qz_] at hb;omega
 refine .skip (qt_ (qt_ (nrg (q1_ h (.t rfl) T.f0 (by omega) fun a h=>qu_ h (.t rfl) T.f0.var (hc1.at (j:=0) rfl) (by omega) fun a h=>q2_ h rfl (.t rfl) .i (by omega) fun a h=>qe_ h (.t rfl) (by omega) fun a h=>?_))))
 have last:∀ (a:Act),St 76 a [(1,.int .i64 ver),(2,.bool fx),(4,pt W.heap.size 0),(7,pt w1.heap.size 0),(9,.bool (t.null && sNul nul ver))]->¬ (kind=10/\0<=nul)->NWP P (.seq (rg (ofl_17 S)) .ret) (Rt (fun a' w'=>a'.defers=[]/\q6_ S.tU8 (sFld kind nul of ver fx (jd_ ver fx sub) t) W (.returned (js_ [8] a')) w') (fun a' w'=>a'.defers=[]/\q6_ S.tU8 (sFld kind nul of ver fx (jd_ ver fx sub) t) W (.returned (js_ [8] a')) w')) a w3:=by
  intro a h hn10
  have e:sFld kind nul of ver fx (jd_ ver fx sub) t=sVal kind (t.null && sNul nul ver) fx (jd_ ver fx sub) t:=by
   simp only [sFld,if_neg hk11,if_neg hn10]
  refine qt_ (nrg (q1_ h (.t rfl) T.f0 (by omega) fun a h=>qu_ h (.t rfl) T.f0.var (hc1.at (j:=0) rfl) (by omega) fun a h=>q1_ h (.t rfl) T.f7 (by omega) fun a h=>qu_ h (.t rfl) T.f7.var (hc1.at (j:=7) rfl) (by omega) fun a h=>?_))
  refine qe_ h (.t rfl) (by omega) fun a h=>qe_ h (.t rfl) (by omega) fun a h=>qe_ h (.t rfl) (by omega) fun a h=>jh_ h (cs:=[.int .i64 t.num,tsv,.bool t.null,tlv,tuv]) (.t rfl) T.vT hc2 (by omega) fun a h=>?_
  refine q3_ h hVE (vs:=[.int .i64 (kind:Int),sv,.bool (t.null && sNul nul ver),.int .i64 ver,.bool fx,.agg [.int .i64 t.num,tsv,.bool t.null,tlv,tuv].toArray]) (fun n a h=>by
   simp only [List.map_cons,List.map_nil]
   rw [Hd.t (l:=_) (i:=68) rfl n a h,Hd.t (l:=_) (i:=70) rfl n a h,Hd.t (l:=_) (i:=71) rfl n a h,Hd.t (l:=_) (i:=72) rfl n a h,Hd.t (l:=_) (i:=73) rfl n a h,Hd.t (l:=_) (i:=74) rfl n a h]) (hV w3 kind _ ver fx (k + 1) _ t sv hfs3 ht3 (by rw [<- e];exact hlim)) (by omega) fun e' w4 hR=>?_
  obtain ⟨v,rfl,hd,hk4⟩:=hR
  refine ⟨v,rfl,fun a h=>qd_ h (.t rfl) (by omega) fun a h=>wpList_nil (.ret ?_)⟩
  exact fin a w4 v _ h.defers (h.get 8 v rfl) hd (Fa0.of hk4) e.symm
 cases hb10:qz_ .eql (kind:Int) 10 with
 | false=>
  rw [hb10] at h
  have hk10:kind ≠ 10:=by simp [qz_] at hb10;omega
  refine qy_ h rfl rfl rfl (by omega) (by simp) (by omega) fun a h=>qy_ h rfl rfl rfl (by omega) (by simp) (by omega) fun a h=>qy_ h rfl rfl rfl (by omega) (by simp) (by omega) fun a h=>?_
  refine jt_ h (.t rfl) (.t rfl) .c (by omega) fun a h=>wpList_nil ?_
  refine ja_ h rfl (fun hb=>by cases hb) (fun _=>?_)
  exact .skip (last a (h.pick ⟨rfl,rfl,rfl,rfl,rfl,trivial⟩) fun hh=>hk10 hh.1)
 | true=>
  rw [hb10] at h
  have hk10:kind=10:=by simp [qz_] at hb10;omega
  refine sg_fld h rfl rfl rfl (by omega) (.t rfl) T.f3 (by omega) fun a h=>sg_load1 h rfl rfl rfl (by omega) (.t rfl) T.f3.var (hc1.at (j:=3) rfl) (by omega) fun a h=>sg_cmp h rfl rfl rfl (by omega) rfl (.t rfl) .i (by omega) fun a h=>?_
  refine jt_ h (.t rfl) (.t rfl) .c (by omega) fun a h=>wpList_nil ?_
  refine ja_ h rfl (fun hb=>?_) (fun hb=>?_)
  ·have hn0:0<=nul:=by simpa [qz_] using hb
   have e:sFld kind nul of ver fx (jd_ ver fx sub) t=if (t.null && sNul nul ver)=true then [255] else 1 :: jd_ ver fx sub t:=by
    simp only [sFld,if_neg hk11,if_pos (show kind=10/\0<=nul from ⟨hk10,hn0⟩)]
   refine qt_ (qt_ (nrg (qe_ h (.t rfl) (by omega) fun a h=>wpList_nil ?_)))
   refine ja_ h rfl (fun hnb=>?_) (fun hnb=>?_)
   ·rw [if_pos hnb] at e
    refine qt_ (nrg (q3_ h C.fixE (vs:=[.int .i64 (-1),.int .i64 ((1:Nat):Int)]) (fun n a h=>rfl) (C.fixC (-1) 1 w3 (by omega)) (by omega) fun e' w4 hR=>?_))
    obtain ⟨v,rfl,hd,hk4⟩:=hR
    refine ⟨v,rfl,fun a h=>qd_ h (.t rfl) (by omega) fun a h=>wpList_nil (.ret ?_)⟩
    exact fin a w4 v _ h.defers (h.get 8 v rfl) hd (Fa0.of hk4) (by rw [e];decide)
   ·rw [if_neg (by rw [hnb];simp)] at e
    rw [e] at hlim
    refine .skip (qt_ (ndrw [true,false,false,false,false,false,true,true,true] (fun w'=>Fa0 w3 w') (by kernel_rfl) ?_))
    show evF P _ [mk (some 60) (.fieldAddr S.tF (tm 4) 7),mk (some 61) (.load S.tFs (tm 60)),mk (some 62) (.move (tm 1)),mk (some 63) (.move (tm 2)),mk (some 64) (.load S.tT (tm 7))] a
     fun af=>wpLd P _ _ [cl (some 59) S.fFix [(ki .i64 1),(ki .i64 1)],cl (some 65) S.fPart [(tm 61),(tm 62),(tm 63),(tm 64)],bi (some 66) .append [(tm 59),(tm 65)] [S.tSl,S.tSl] S.tSl,mk (some 8) (.assign (tm 66))] af w3.drew
    refine se_fld h (.t rfl) T.f7 (by omega) fun a h=>se_load1 h (.t rfl) T.f7.var (fun w' hI=>Fa0.cell hI (hc1.at (j:=7) rfl)) (by omega) fun a h=>ju_ h (.t rfl) (by omega) fun a h=>ju_ h (.t rfl) (by omega) fun a h=>se_loadN h (cs:=[.int .i64 t.num,tsv,.bool t.null,tlv,tuv]) (.t rfl) T.vT (fun w' hI=>Fa0.cells hI hc2) (by omega) fun a h=>se_nil ?_
    have hI0:Fa0 w3 w3.drew:=Fa0.of (qc_.drew _ _)
    refine jp_ h hI0 C.fixE (vs:=[.int .i64 1,.int .i64 ((1:Nat):Int)]) (fun n a h=>rfl) (C.fixC 1 1 w3.drew (by omega)) (by omega) fun e' w4 hR=>?_
    obtain ⟨u,rfl,hu,hk4⟩:=hR
    have hI4:=hI0.kn hk4
    simp only [List.length_cons] at hlim
    refine ⟨u,rfl,fun a h=>jp_ h hI4 hPE (vs:=[sv,.int .i64 ver,.bool fx,.agg [.int .i64 t.num,tsv,.bool t.null,tlv,tuv].toArray]) (fun n a h=>by
     simp only [List.map_cons,List.map_nil]
     rw [Hd.t (l:=_) (i:=61) rfl n a h,Hd.t (l:=_) (i:=62) rfl n a h,Hd.t (l:=_) (i:=63) rfl n a h,Hd.t (l:=_) (i:=64) rfl n a h]) (hP w4 ver fx (k + 1) _ t sv (hfs3.far hI4) (ht3.far hI4) (by omega)) (by omega) fun e' w5 hR=>?_⟩
    obtain ⟨v,rfl,hv,hk5⟩:=hR
    have hI5:=hI4.kn hk5
    have hu5:qv_ w5 w3.heap.size S.tU8 u (be 1 1):=(Gr.lower (L':=w3.heap.size) hI0.size (Gr.refl (hu.keep hk5 fun _ _ h=>h))).dst
    refine ⟨v,rfl,fun a h=>sl_app h hI5 T.oct (.t rfl) (.t rfl) hu5 (src_dst T.oct hv) hI5.size (by rw [be_length];omega) (by omega) fun v6 w6 a hg h=>?_⟩
    have hI6:Fa0 w3 w6:=hI5.up hg.keeps fun j hj=>(hu5.own hj).1
    refine sl_assign h hI6 (.t rfl) (by omega) fun a h=>sl_nil hI6 (.ret ?_)
    exact fin a w6 v6 _ h.defers (h.get 8 v6 rfl) hg.dst hI6 (by rw [e,show be 1 1=[1] from by decide];rfl)
  ·have hn0:¬ 0<=nul:=by simpa [qz_] using hb
   exact .skip (last a (h.pick ⟨rfl,rfl,rfl,rfl,rfl,trivial⟩) fun hh=>hn0 hh.2)
end
end Go.Proofs.Ytbgklecbmhaadaa.Kx

namespace Go.Proofs.Ytbgklecbmhaadaa.Kx
open Go
set_option maxRecDepth 4000
section
variable {P:Program} {S:SN}
section
variable {ops:Array Oper} {Q:Exit->Act->World->Prop} {r:List Oper} {n:Nat} {a:Act} {w:World} {l:List (Nat × Value)}
theorem sg_call (h:St n a l) {d j jd f:Nat} {b:Bool} {o:Oper} {args:List Operand} {vs:List Value} {R:Ending->World->Prop} (ho:ops[j]?=some o) (hod:o.dst=some jd) (hj:l.lookup jd=some (.bool b)) (hjn:jd < n) (hf:Ent P f) (hargs:∀ (n:Nat) (a:Act),St n a l->args.map a.eval=vs) (hc:Calls P f vs.toArray w R) (hd:d < n)
  (c:∀ e w',R e w'->∃ v,e=.returned v/\∀ a',St n a' ((d,v) :: l)->wpList P ops Q r a' w'):wpList P ops Q (gd d (.call ⟨.value (.func f),args.toArray,#[]⟩) j b :: r) a w:=by
 refine wg_run (jk_ ho hod (by rw [h.size];exact hjn) (h.get _ _ hj)) ?_
 unfold Oper.wp
 have : (execOp a.eval (⟨some d, .call ⟨.value (.func f), args.toArray, #[]⟩, 0, "", #[], some (j, b)⟩ : Oper)).run P w = .ok (.enter f vs.toArray) w := by
  have he:a.eval (.func f)=.func (.func f) #[] #[]:=rfl
  have ha2:(args.map a.eval).toArray=vs.toArray:=by rw [hargs n a h]
  simp only [execOp,resolve,he,Deferred.ofValue,invoke,Sem.run_bind,Sem.run_pure,Result.andThen_ok,Array.empty_append,Array.append_empty,List.map_toArray,ha2]
  exact hf _ _
 rw [this]
 exact hc.mono fun e w' hR=>by
  obtain ⟨v,rfl,hk⟩:=c e w' hR
  exact hk _ (h.put _ hd)
end
def SubC (P:Program) (S:SN):SFs->Prop
 | .nil=>True
 | .cons _ _ _ _ _ _ _ sub r=>FldC P S sub/\SubC P S r
theorem newvar2 {w:World} {T:Nat} {z:Value} {cs:List Value} (hz:z.cells.size=cs.length):qc_ (fun _=>False) w ((w.alloc (.cells z.cells T (0,0))).setRow w.heap.size cs.toArray)/\qf_ ((w.alloc (.cells z.cells T (0,0))).setRow w.heap.size cs.toArray) w.heap.size 0 cs:=newvar hz
theorem pt_loop1 (C:LeafC P S) (hFE:Ent P S.fField) {W:World} {sf:SFs} {fv:Value} {ver:Int} {fx:Bool} {k B:Nat} {cs:List Value} {t:Tr} (hfs:FsRp W sf fv) (ht:TrRp W k cs t) (hB:qf_ W B 0 cs) (hsub:SubC P S sf) (hlim:(sFds ver fx sf 0 t).length<=LIM) {a:Act}
  (h:St 132 a [(0,fv),(1,.int .i64 ver),(2,.bool fx),(7,pt B 0),(9,qs_),(10,qs_),(11,.int .i64 0)]) {R:Exit->Act->World->Prop}
  (hR:∀ (a':Act) (w':World) (v:Value),St 132 a' [(0,fv),(1,.int .i64 ver),(2,.bool fx),(7,pt B 0),(9,v),(10,qs_),(11,.int .i64 0)]->qv_ w' W.heap.size S.tU8 v (sFds ver fx sf 0 t)->Fa0 W w'->R .normal a' w') :
  NWP P (.seq (rg (opt_3 S)) (.block 0 (.loop (.seq (rg (opt_4 S)) (.seq (.cond (tm 24) .skip (.exit 0)) (.seq (.block 1 (.seq (rg (opt_5 S)) (.seq (rg (opt_6 S)) (.cond (tm 35) (.region 1 (opt_7 S).toArray true) .skip)))) (rg (opt_8 S)))))))) R a W:=by
 have T:=C.tab
 have hlen5:=ht.len
 obtain ⟨base,c,hfv,hlen,hfa0⟩:=hfs.form
 refine qt_ (nrg (qe_ h (.t rfl) (by omega) fun a h=>?_))
 have h':=h
 rw [hfv] at h'
 refine zd_ h' (.t rfl) T.dFs (by omega) fun a h=>qe_ h .i (by omega) fun a h=>wpList_nil ?_
 rw [<- hfv] at h
 refine z2_ (fun m a' w'=>∃ (i:Nat) (rest:SFs) (v:Value) (bs:Bs),i + m=sf.len/\rest.len=m/\SubC P S rest/\bs++sFds ver fx rest i t=sFds ver fx sf 0 t/\qv_ w' W.heap.size S.tU8 v bs/\Fa0 W w'/\(∀ b o,base=some ⟨b,o,none⟩->FsAt W sf b o->FsAt W rest b (o + i * 8)) /\
   St 132 a' [(0,fv),(1,.int .i64 ver),(2,.bool fx),(7,pt B 0),(9,v),(10,qs_),(11,.int .i64 0),(21,fv),(22,.int .i64 (sf.len:Int)),(23,.int .i64 (i:Int))]) sf.len
  ⟨sf.len,Nat.le_refl _,0,sf,qs_,[],by omega,rfl,hsub,rfl,qv_.nil _ _ _,Fa0.refl W,fun b o _ hh=>by simpa using hh,h.pick ⟨rfl,rfl,rfl,rfl,rfl,rfl,rfl,rfl,rfl,rfl,trivial⟩⟩ ?_
 rintro m a w hm ⟨i,rest,v,bs,him,hrl,hrs,htot,hd,hk,hat,h⟩
 refine qt_ (nrg (q2_ h rfl (.t rfl) (.t rfl) (by omega) fun a h=>wpList_nil ?_))
 refine st_test h rfl (fun hb=>?_) (fun hb=>?_)
 ·have hlt:i < sf.len:=by simp [qz_] at hb;omega
  refine .skip ?_
  cases hr:rest with
  | nil=>rw [hr] at hrl;simp [SFs.len] at hrl;omega
  | cons kind lo hi nul tag df of sub r=>
   subst hr
   obtain ⟨b,o,hbase,hfa⟩:=hfa0.resolve_left (fun hh=>by rw [hh] at hlt;simp [SFs.len] at hlt)
   obtain ⟨⟨sv,hc,hsubv⟩,hnext⟩:=hat b o hbase hfa
   have hc:qf_ W b (o + i * 8) (qr_ kind lo hi nul tag df of sv):=hc
   have hfsub:FsRp W sub sv:=hsubv
   have hi63:(i:Int) + 1<=9223372036854775807:=by simp only [maxLen] at hlen;omega
   refine qt_ (.block (qt_ (nrg (qe_ h (.t rfl) (by omega) fun a h=>?_))))
   have h':=h
   rw [hfv,hbase] at h'
   refine zj_ h' (sz:=8) (.t rfl) (.t rfl) hlt T.dFs T.vF.size (by omega) fun a h=>jh_ h (cs:=qr_ kind lo hi nul tag df of sv) (.t rfl) T.vF (hk.cells hc) (by omega) fun a h=>?_
   rw [<- hbase,<- hfv] at h
   refine j6_ h (T.zF w) (by omega) fun a h=>qd_ h (.t rfl) (by omega) fun a h=>?_
   have hnv:=newvar2 (w:=w) (T:=S.tF) (z:=.agg #[.int .i64 0,.int .i64 0,.int .i64 0,.int .i64 0,.int .i64 0,.int .i64 0,.int .i64 0,qs_]) (cs:=qr_ kind lo hi nul tag df of sv) rfl
   refine zq_ h (cs:=qr_ kind lo hi nul tag df of sv) (.t rfl) (.t rfl) (by simp [Value.cells]) T.vF.size (qk_ w _) rfl (fCells_one kind lo hi nul tag df of (sub_one hsubv)) (wpList_nil ?_)
   obtain ⟨hk2,hc2⟩:=hnv
   generalize (w.alloc (.cells (Value.agg #[.int .i64 0,.int .i64 0,.int .i64 0,.int .i64 0,.int .i64 0,.int .i64 0,.int .i64 0,qs_]).cells S.tF (0,0))).setRow w.heap.size (qr_ kind lo hi nul tag df of sv).toArray=w2 at hk2 hc2 ⊢
   have hg:W.heap.size<=w.heap.size:=hk.size
   have hd2:qv_ w2 W.heap.size S.tU8 v bs:=hd.keep hk2 fun _ _ h=>h
   have hf2:=hk.kn hk2
   have hown:∀ j,v.ownBlock=some j->j < w.heap.size:=fun j hj=>(hd.own hj).2
   have h:St 132 a [(0,fv),(1,.int .i64 ver),(2,.bool fx),(7,pt B 0),(9,v),(10,qs_),(11,.int .i64 0),(12,.int .i64 (i:Int)),(13,pt w.heap.size 0),(21,fv),(22,.int .i64 (sf.len:Int)),(23,.int .i64 (i:Int))]:=h.pick ⟨rfl,rfl,rfl,rfl,rfl,rfl,rfl,rfl,rfl,rfl,rfl,rfl,trivial⟩
   clear hd hk h'
   have step:∀ (a:Act) (w3:World) (v3:Value) (bs3:Bs) (KK:Exit->Act->World->Prop),St 132 a [(0,fv),(1,.int .i64 ver),(2,.bool fx),(7,pt B 0),(9,v3),(10,qs_),(11,.int .i64 0),(21,fv),(22,.int .i64 (sf.len:Int)),(23,.int .i64 (i:Int))]->qv_ w3 W.heap.size S.tU8 v3 bs3->Fa0 W w3->bs3++sFds ver fx r (i + 1) t=sFds ver fx sf 0 t ->
     NWP P (rg (opt_8 S)) (Exit.then (fun a' w'=>∃ m',m'<=sf.len/\m' < m/\∃ (i:Nat) (rest:SFs) (v:Value) (bs:Bs),i + m'=sf.len/\rest.len=m'/\SubC P S rest/\bs++sFds ver fx rest i t=sFds ver fx sf 0 t/\qv_ w' W.heap.size S.tU8 v bs/\Fa0 W w'/\(∀ b o,base=some ⟨b,o,none⟩->FsAt W sf b o->FsAt W rest b (o + i * 8)) /\
      St 132 a' [(0,fv),(1,.int .i64 ver),(2,.bool fx),(7,pt B 0),(9,v),(10,qs_),(11,.int .i64 0),(21,fv),(22,.int .i64 (sf.len:Int)),(23,.int .i64 (i:Int))]) KK) a w3:=by
    intro a w3 v3 bs3 KK h hd3 hk3 htot3
    refine nrg (j2_ h (.t rfl) .i (by simp) (j0_ w3) (by omega) fun a h=>?_)
    have hw:IntKind.i64.wrap ((i:Int) + 1)=((i + 1:Nat):Int):=by simp [IntKind.wrap,IntKind.bits,IntKind.signed];omega
    rw [hw] at h
    refine qe_ h (.t rfl) (by omega) fun a h=>wpList_nil ?_
    refine ⟨m - 1,by omega,by omega,i + 1,r,v3,bs3,by omega,by simp only [SFs.len] at hrl;omega,hrs.2,htot3,hd3,hk3,fun b' o' hbo hh=>?_,h.pick ⟨rfl,rfl,rfl,rfl,rfl,rfl,rfl,rfl,rfl,rfl,trivial⟩⟩
    have:=(hat b' o' hbo hh).2
    rw [show o' + (i + 1) * 8=o' + i * 8 + 8 by omega]
    exact this
   refine qt_ (nrg (q1_ h (.t rfl) T.f4 (by omega) fun a h=>qu_ h (.t rfl) T.f4.var (hc2.at (j:=4) rfl) (by omega) fun a h=>q2_ h rfl (.t rfl) .i (by omega) fun a h=>qe_ h (.t rfl) (by omega) fun a h=>?_))
   have hwrite:sFds ver fx (.cons kind lo hi nul tag df of sub r) i t=(if tag < 0/\sHas lo hi ver=true then sFld kind nul of ver fx (jd_ ver fx sub) (t.at i) else [])++sFds ver fx r (i + 1) t:=by
    simp only [sFds];rfl
   rw [hwrite] at htot
   have go:∀ (a:Act) (w3:World) (bb:Bool) (KK:Exit->Act->World->Prop),St 132 a [(0,fv),(1,.int .i64 ver),(2,.bool fx),(7,pt B 0),(9,v),(10,qs_),(11,.int .i64 0),(12,.int .i64 (i:Int)),(13,pt w.heap.size 0),(21,fv),(22,.int .i64 (sf.len:Int)),(23,.int .i64 (i:Int)),(35,.bool bb)]->qc_ (fun _=>False) w2 w3->bb=decide (tag < 0/\sHas lo hi ver=true) ->
     (∀ a' w',(∃ v3 bs3,St 132 a' [(0,fv),(1,.int .i64 ver),(2,.bool fx),(7,pt B 0),(9,v3),(10,qs_),(11,.int .i64 0),(21,fv),(22,.int .i64 (sf.len:Int)),(23,.int .i64 (i:Int))]/\qv_ w' W.heap.size S.tU8 v3 bs3/\Fa0 W w'/\bs3++sFds ver fx r (i + 1) t=sFds ver fx sf 0 t)->KK .normal a' w') ->
     NWP P (.cond (tm 35) (.region 1 (opt_7 S).toArray true) .skip) KK a w3:=by
    intro a w3 bb KK h hk3 hbb hKK
    have hd3:=hd2.keep hk3 fun _ _ h=>h
    have hf3:=hf2.kn hk3
    have hc3:=qf_.kn hk3 hc2
    have hs3:w.heap.size<=w3.heap.size:=Nat.le_trans hk2.size hk3.size
    refine ja_ h rfl (fun hT=>?_) (fun hF=>?_)
    ·rw [hT] at hbb
     have hyes:tag < 0/\sHas lo hi ver=true:=of_decide_eq_true hbb.symm
     rw [if_pos hyes] at htot
     have hlen2:bs.length + (sFld kind nul of ver fx (jd_ ver fx sub) (t.at i)).length<=LIM:=by
      have:=congrArg List.length htot
      simp only [List.length_append] at this
      omega
     refine ndrw [false,false,false,false,false,false,true,true,true,true] (fun w'=>Fa0 W w'/\qf_ w' w.heap.size 0 (qr_ kind lo hi nul tag df of sv)) (by kernel_rfl) ?_
     show evF P _ [mk (some 36) (.move (tm 9)),mk (some 37) (.load S.tF (tm 13)),mk (some 38) (.move (tm 1)),mk (some 39) (.move (tm 2)),mk (some 40) (.load S.tT (tm 7)),mk (some 41) (.move (tm 12))] a
      fun af=>wpLd P _ _ [cl (some 42) S.fAt [(tm 40),(tm 41)],cl (some 43) S.fField [(tm 37),(tm 38),(tm 39),(tm 42)],bi (some 44) .append [(tm 36),(tm 43)] [S.tSl,S.tSl] S.tSl,mk (some 9) (.assign (tm 44))] af w3.drew
     refine ju_ h (.t rfl) (by omega) fun a h=>se_loadN h (cs:=qr_ kind lo hi nul tag df of sv) (.t rfl) T.vF (fun w' hI=>hI.2) (by omega) fun a h=>ju_ h (.t rfl) (by omega) fun a h=>ju_ h (.t rfl) (by omega) fun a h=>se_loadN h (cs:=cs) (.t rfl) (by rw [hlen5];exact T.vT) (fun w' hI=>Fa0.cells hI.1 hB) (by omega) fun a h=>ju_ h (.t rfl) (by omega) fun a h=>se_nil ?_
     have hI0:Fa0 W w3.drew/\qf_ w3.drew w.heap.size 0 (qr_ kind lo hi nul tag df of sv):=⟨hf3.kn (qc_.drew _ _),qf_.kn (qc_.drew _ _) hc3⟩
     have hd0:qv_ w3.drew W.heap.size S.tU8 v bs:=hd3.keep (qc_.drew (fun _=>False) _) fun _ _ h=>h
     have hfst:=h.pick (m:=[(0,fv),(1,.int .i64 ver),(2,.bool fx),(7,pt B 0),(10,qs_),(11,.int .i64 0),(21,fv),(22,.int .i64 (sf.len:Int)),(23,.int .i64 (i:Int)),(36,v),(37,.agg (qr_ kind lo hi nul tag df of sv).toArray),(38,.int .i64 ver),(39,.bool fx),(40,.agg cs.toArray),(41,.int .i64 (i:Int))]) ⟨rfl,rfl,rfl,rfl,rfl,rfl,rfl,rfl,rfl,rfl,rfl,rfl,rfl,rfl,rfl,trivial⟩
     generalize hFv:Value.agg (qr_ kind lo hi nul tag df of sv).toArray=vF at hfst
     refine jp_ hfst hI0 C.atE (vs:=[.agg cs.toArray,.int .i64 (i:Int)]) (fun n a h=>by
      simp only [List.map_cons,List.map_nil]
      rw [Hd.t (l:=_) (i:=40) rfl n a h,Hd.t (l:=_) (i:=41) rfl n a h]) (C.atC k i cs t w3.drew (ht.far hI0.1)) (by omega) fun e w4 hR4=>?_
     obtain ⟨cs4,rfl,ht4,hk4⟩:=hR4
     have hI4:Fa0 W w4/\qf_ w4 w.heap.size 0 (qr_ kind lo hi nul tag df of sv):=⟨hI0.1.kn hk4,qf_.kn hk4 hI0.2⟩
     have hfld:=hrs.1 w4 kind lo hi nul tag df of sv ver fx k cs4 (t.at i) (hfsub.far hI4.1) (ht4.far (Fa0.of hk4)) (by omega)
     rw [hFv] at hfld
     refine ⟨_,rfl,fun a h=>jp_ h hI4 hFE (vs:=[vF,.int .i64 ver,.bool fx,.agg cs4.toArray]) (fun n a h=>by
      simp only [List.map_cons,List.map_nil]
      rw [Hd.t (l:=_) (i:=37) rfl n a h,Hd.t (l:=_) (i:=38) rfl n a h,Hd.t (l:=_) (i:=39) rfl n a h,Hd.t (l:=_) (i:=42) rfl n a h]) hfld (by omega) fun e w5 hR5=>?_⟩
     obtain ⟨u,rfl,hu,hk5⟩:=hR5
     have hI5:Fa0 W w5/\qf_ w5 w.heap.size 0 (qr_ kind lo hi nul tag df of sv):=⟨hI4.1.kn hk5,qf_.kn hk5 hI4.2⟩
     have hd5:qv_ w5 W.heap.size S.tU8 v bs:=(hd0.keep hk4 fun _ _ h=>h).keep hk5 fun _ _ h=>h
     refine ⟨u,rfl,fun a h=>sl_app h hI5 T.oct (.t rfl) (.t rfl) hd5 (src_dst T.oct hu) hI5.1.size hlen2 (by omega) fun v6 w6 a hgr h=>?_⟩
     have hI6:Fa0 W w6/\qf_ w6 w.heap.size 0 (qr_ kind lo hi nul tag df of sv):=⟨hI5.1.up hgr.keeps fun j hj=>(hd5.own hj).1,fun j x hj=>hgr.keeps.cell (fun hX=>by have:=hown _ hX;omega) (hI5.2 j x hj)⟩
     refine sl_assign h hI6 (.t rfl) (by omega) fun a h=>sl_nil hI6 (hKK _ _ ⟨v6,_,h.pick ⟨rfl,rfl,rfl,rfl,rfl,rfl,rfl,rfl,rfl,rfl,trivial⟩,hgr.dst,hI6.1,?_⟩)
     rw [List.append_assoc];exact htot
    ·rw [hF] at hbb
     have hno:¬ (tag < 0/\sHas lo hi ver=true):=of_decide_eq_false hbb.symm
     rw [if_neg hno,List.nil_append] at htot
     exact .skip (hKK _ _ ⟨v,bs,h.pick ⟨rfl,rfl,rfl,rfl,rfl,rfl,rfl,rfl,rfl,rfl,trivial⟩,hd3,hf3,htot⟩)
   cases hbt:qz_ .lss tag 0 with
   | false=>
    rw [hbt] at h
    refine qy_ h rfl rfl rfl (by omega) (by simp) (by omega) fun a h=>qy_ h rfl rfl rfl (by omega) (by simp) (by omega) fun a h=>qy_ h rfl rfl rfl (by omega) (by simp) (by omega) fun a h=>?_
    refine jt_ h (.t rfl) (.t rfl) .c (by omega) fun a h=>wpList_nil ?_
    have hnt:¬ tag < 0:=by simpa [qz_] using hbt
    refine go a w2 false _ (h.pick ⟨rfl,rfl,rfl,rfl,rfl,rfl,rfl,rfl,rfl,rfl,rfl,rfl,rfl,trivial⟩) (qc_.refl _ _) (by simp [hnt]) fun a' w' hh=>?_
    obtain ⟨v3,bs3,h3,h4,h5,h6⟩:=hh
    exact step a' w' v3 bs3 _ h3 h4 h5 h6
   | true=>
    rw [hbt] at h
    have hnt:tag < 0:=by simpa [qz_] using hbt
    refine st_gd h (op:=.load S.tF (tm 13)) (v:=.agg (qr_ kind lo hi nul tag df of sv).toArray) rfl rfl rfl (by omega) ?_ (by omega) fun a h=>sg_move h rfl rfl rfl (by omega) (.t rfl) (by omega) fun a h=>?_
    ·have hl:=run_loadCells_list (P:=P) w2 ⟨w.heap.size,0,none⟩ (qr_ kind lo hi nul tag df of sv) (fun j v hj=>by rw [Addr.add_lit];exact hc2 j v hj)
     have e:=Hd.t (l:=_) (i:=13) rfl _ a h
     simp only [pt] at e
     have hl8:(qr_ kind lo hi nul tag df of sv).length=8:=rfl
     rw [hl8] at hl
     simp [execOp,mk,e,Instr.loadAt,Instr.sureAddr,loadVar,T.vF.agg w2,T.vF.size w2,hl]
    have hhas:=C.hasC kind lo hi nul tag df of sv ver w2
    have h:=h.pick (m:=[(0,fv),(1,.int .i64 ver),(2,.bool fx),(7,pt B 0),(9,v),(10,qs_),(11,.int .i64 0),(12,.int .i64 (i:Int)),(13,pt w.heap.size 0),(21,fv),(22,.int .i64 (sf.len:Int)),(23,.int .i64 (i:Int)),(31,.bool true),(32,.agg (qr_ kind lo hi nul tag df of sv).toArray),(33,.int .i64 ver)]) ⟨rfl,rfl,rfl,rfl,rfl,rfl,rfl,rfl,rfl,rfl,rfl,rfl,rfl,rfl,rfl,trivial⟩
    generalize hFv:Value.agg (qr_ kind lo hi nul tag df of sv).toArray=vF at h hhas
    refine sg_call h rfl rfl rfl (by omega) C.hasE (args:=[(tm 32),(tm 33)]) (vs:=[vF,.int .i64 ver]) (fun n a h=>by
     simp only [List.map_cons,List.map_nil]
     rw [Hd.t (l:=_) (i:=32) rfl n a h,Hd.t (l:=_) (i:=33) rfl n a h]) hhas (by omega) fun e w3 hR3=>?_
    obtain ⟨rfl,hk3⟩:=hR3
    refine ⟨_,rfl,fun a h=>jt_ h (.t rfl) (.t rfl) .c (by omega) fun a h=>wpList_nil ?_⟩
    refine go a w3 (sHas lo hi ver) _ (h.pick ⟨rfl,rfl,rfl,rfl,rfl,rfl,rfl,rfl,rfl,rfl,rfl,rfl,rfl,trivial⟩) hk3 (by simp [hnt]) fun a' w' hh=>?_
    obtain ⟨v3,bs3,h3,h4,h5,h6⟩:=hh
    exact step a' w' v3 bs3 _ h3 h4 h5 h6
 ·have hge:¬ i < sf.len:=by simp [qz_] at hb;omega
  have hm0:rest=.nil:=by
   cases rest with
   | nil=>rfl
   | cons=>simp only [SFs.len] at hrl;omega
  subst hm0
  simp only [sFds,List.append_nil] at htot
  subst htot
  exact .exit (hR a w v (h.pick ⟨rfl,rfl,rfl,rfl,rfl,rfl,rfl,trivial⟩) hd hk)
end
end Go.Proofs.Ytbgklecbmhaadaa.Kx

namespace Go.Proofs.Ytbgklecbmhaadaa.Kx
open Go
set_option maxRecDepth 4000
structure TgE where
 k:UInt32
 v:Value
 b:Bs
def zb_ (w:World) (L tG:Nat) (v:Value) (es:List TgE):Prop:=
 (v=qs_/\es=[]) \/
 ∃ (g c:Nat) (cur:Array Value),v=.slice (some ⟨g,0,none⟩) es.length c/\L<=g/\w.heap[g]?=some (.cells cur tG (0,0))/\es.length<=c/\c<=maxLen/\cur.size=c * 2/\∀ i e,es[i]?=some e->cur[i * 2]?=some (.int .u32 (e.k.toNat:Int))/\cur[i * 2 + 1]?=some e.v
theorem zb_.own {w:World} {L tG:Nat} {v:Value} {es:List TgE} (h:zb_ w L tG v es) {k:Nat} (hk:v.ownBlock=some k):L<=k/\k < w.heap.size:=by
 rcases h with ⟨rfl,_⟩ | ⟨g,c,cur,rfl,hL,hg,_⟩
 ·cases hk
 ·obtain rfl:g=k:=Option.some.inj hk
  exact ⟨hL,(Array.getElem?_eq_some_iff.1 hg).1⟩
theorem zb_.keep {w w':World} {X:Nat->Prop} {L tG:Nat} {v:Value} {es:List TgE} (h:zb_ w L tG v es) (hk:qc_ X w w') (hx:∀ k,v.ownBlock=some k->¬ X k):zb_ w' L tG v es:=by
 rcases h with h | ⟨g,c,cur,rfl,hL,hg,h⟩
 ·exact .inl h
 ·exact .inr ⟨g,c,cur,rfl,hL,by rw [hk.block g (Array.getElem?_eq_some_iff.1 hg).1 (hx g rfl)];exact hg,h⟩
theorem zb_.form {w:World} {L tG:Nat} {v:Value} {es:List TgE} (h:zb_ w L tG v es):∃ base c,v=.slice base es.length c/\es.length<=maxLen:=by
 rcases h with ⟨rfl,rfl⟩ | ⟨g,c,cur,rfl,_,_,h1,h2,_⟩
 ·exact ⟨none,0,rfl,by simp [maxLen]⟩
 ·exact ⟨_,c,rfl,by omega⟩
theorem zb_.get {w:World} {L tG:Nat} {v:Value} {es:List TgE} (h:zb_ w L tG v es) {i:Nat} {e:TgE} (hi:es[i]?=some e):∃ g c,v=.slice (some ⟨g,0,none⟩) es.length c/\i < es.length/\qf_ w g (0 + i * 2) [.int .u32 (e.k.toNat:Int),e.v]:=by
 rcases h with ⟨_,rfl⟩ | ⟨g,c,cur,rfl,_,hg,_,_,_,hat⟩
 ·simp at hi
 ·obtain ⟨h1,h2⟩:=hat i e hi
  refine ⟨g,c,rfl,(List.getElem?_eq_some_iff.1 hi).1,fun j x hj=>?_⟩
  have hcell:∀ o,w.cell? ⟨g,o,none⟩=cur[o]?:=fun o=>by simp [World.cell?,hg]
  rw [hcell]
  match j,hj with
  | 0,hj=>simp only [List.getElem?_cons_zero,Option.some.injEq] at hj;subst hj;simpa using h1
  | 1,hj=>simp only [List.getElem?_cons_succ,List.getElem?_cons_zero,Option.some.injEq] at hj;subst hj;simpa using h2
  | j + 2,hj=>simp at hj
theorem zb_.set {w:World} {L tG g c:Nat} {es:List TgE} {cur:Array Value} {len:Nat} (hlen:es.length=len) (hL:L<=g) (hg:w.heap[g]?=some (.cells cur tG (0,0))) (hc:len<=c) (hcm:c<=maxLen) (hcs:cur.size=c * 2) (hat:∀ i e,es[i]?=some e->cur[i * 2]?=some (.int .u32 (e.k.toNat:Int))/\cur[i * 2 + 1]?=some e.v) {i:Nat} (hi:i < len) (e:TgE) :
  zb_ (w.setRow g (q4_ cur (i * 2) [.int .u32 (e.k.toNat:Int),e.v])) L tG (.slice (some ⟨g,0,none⟩) len c) (es.set i e):=by
 have hfit:i * 2 + [Value.int .u32 (e.k.toNat:Int),e.v].length<=cur.size:=by simp only [List.length_cons,List.length_nil];omega
 refine .inr ⟨g,c,_,by rw [List.length_set,hlen],hL,setRow_heap _ _ _ _ _ _ hg,by rw [List.length_set,hlen];exact hc,hcm,by rw [zv_ hfit];exact hcs,fun j x hj=>?_⟩
 rw [List.getElem?_set] at hj
 split at hj
 ·rename_i hij
  subst hij
  split at hj
  ·obtain rfl:=Option.some.inj hj
   refine ⟨?_,?_⟩
   ·have:=ze_ hfit 0 (by simp)
    simpa using this
   ·have:=ze_ hfit 1 (by simp)
    simpa using this
  ·cases hj
 ·rename_i hij
  obtain ⟨h1,h2⟩:=hat j x hj
  refine ⟨?_,?_⟩
  ·rw [jl_ hfit _ (by simp only [List.length_cons,List.length_nil];omega)];exact h1
  ·rw [jl_ hfit _ (by simp only [List.length_cons,List.length_nil];omega)];exact h2
def tgZero:TgE:=⟨0,qs_,[]⟩
theorem run_append_out {P:Program} {S:SN} (T:RefT P S) {w:World} {L:Nat} {v x:Value} {es:List TgE} (h:zb_ w L S.tG v es) (hx:Src P 2 S.tGs x 1 [.int .u32 0,qs_] w) (hL:L<=w.heap.size) (hlim:es.length<=40000) :
  ∃ v' w',(Builtin.append_ #[S.tGs,S.tGs] S.tGs #[v,x]).run P w=.ok v' w'/\zb_ w' L S.tG v' (es++[tgZero])/\qc_ (fun k=>v.ownBlock=some k) w w'/\∀ k,v'.ownBlock=some k->v.ownBlock=some k \/ w.heap.size<=k:=by
 obtain ⟨i,hi,hz,hsz,hby⟩:=T.iG
 have ht:=T.dGs
 have hs':Src P i.size S.tGs x 1 [.int .u32 0,qs_] w:=by rw [hsz];exact hx
 have z0:∀ j (e:TgE),[tgZero][j]?=some e->j=0/\e=tgZero:=fun j e h=>by
  match j,h with
  | 0,h=>simp only [List.getElem?_cons_zero,Option.some.injEq] at h;exact ⟨rfl,h.symm⟩
  | j + 1,h=>simp at h
 have grown:∀ (base:Option Addr) (old:Nat) (olds:List Value),olds.length=es.length * 2->old < es.length + 1->(Builtin.firstCells i.size es.length (.slice base es.length old)).run P w.drew=.ok olds.toArray w.drew ->
   (∀ j e,es[j]?=some e->olds[j * 2]?=some (.int .u32 (e.k.toNat:Int))/\olds[j * 2 + 1]?=some e.v) ->
   ∃ v' w',(Builtin.append_ #[S.tGs,S.tGs] S.tGs #[.slice base es.length old,x]).run P w=.ok v' w'/\zb_ w' L S.tG v' (es++[tgZero])/\qc_ (fun _=>False) w w'/\∀ k,v'.ownBlock=some k->w.heap.size<=k:=by
  intro base old olds hol ho hold hat
  have hr:=run_append_grow_src (P:=P) w S.tGs S.tGs S.tGs S.tG i (.agg #[.int .u32 0,qs_]) ht hi hz base es.length old olds hold x 1 [.int .u32 0,qs_] hs' ho (by omega) (growslice_fits ho (by rw [hby];omega))
  have hge:=grownCap_ge w (es.length + 1) old S.tG
  have hcm:grownCap w (es.length + 1) old S.tG<=maxLen:=grownCap_le_maxLen w _ old S.tG (by simp only [maxLen];omega)
  refine ⟨_,_,hr,.inr ⟨w.heap.size,_,_,by rw [List.length_append];rfl,hL,Go.heap_alloc_new w.drew _,by rw [List.length_append];exact hge,hcm,?_,?_⟩,?_⟩
  ·simp only [Array.size_append,List.size_toArray,size_zeroCells,List.length_append,hol,Value.cells]
   simp only [List.length_cons,List.length_nil]
   omega
  ·intro j e hj
   have hjl:j < es.length + 1:=by have:=(List.getElem?_eq_some_iff.1 hj).1;simpa using this
   have pre:∀ q,q < es.length * 2 + 2->((olds++[.int .u32 0,qs_]).toArray++Builtin.zeroCells (Value.agg #[.int .u32 0,qs_]).cells (grownCap w (es.length + 1) old S.tG - (es.length + 1)))[q]?=(olds++[.int .u32 0,qs_])[q]?:=fun q hq=>by
    rw [Array.getElem?_append_left (by simp only [List.size_toArray,List.length_append,hol,List.length_cons,List.length_nil];omega)]
    simp
   rw [pre _ (by omega),pre _ (by omega)]
   by_cases hjb:j < es.length
   ·rw [List.getElem?_append_left hjb] at hj
    obtain ⟨h1,h2⟩:=hat j e hj
    rw [List.getElem?_append_left (by omega),List.getElem?_append_left (by omega)]
    exact ⟨h1,h2⟩
   ·rw [List.getElem?_append_right (by omega)] at hj
    obtain ⟨hj0,rfl⟩:=z0 _ _ hj
    have hje:j=es.length:=by omega
    subst hje
    rw [List.getElem?_append_right (by omega),List.getElem?_append_right (by omega),hol]
    simp [tgZero]
  ·exact ⟨⟨rfl,rfl,rfl,by simp,fun k hk _=>jc_ (w:=w.drew) hk⟩,fun k hk=>by simp only [Value.ownBlock,Option.some.injEq] at hk;omega⟩
 rcases h with ⟨rfl,rfl⟩ | ⟨g,c,cur,rfl,hgL,hg,hnc,hcm,hcs,hat⟩
 ·obtain ⟨v',w',a1,a2,a3,a4⟩:=grown none 0 [] rfl (by simp) (by simp [Builtin.firstCells]) (fun j e h=>by simp at h)
  exact ⟨v',w',a1,a2,a3.mono fun _ _ h=>h.elim,fun k hk=>.inr (a4 k hk)⟩
 ·have hcl:cur.toList.length=c * 2:=by simpa using hcs
  by_cases hroom:es.length + 1<=c
  ·have hst:=run_storeCells_at P g (es.length * 2) S.tG [.int .u32 0,qs_] 0 cur w hg (by simp only [List.length_cons,List.length_nil];omega) hx.one
   simp only [Nat.add_zero] at hst
   have hr:(Builtin.append_ #[S.tGs,S.tGs] S.tGs #[.slice (some ⟨g,0,none⟩) es.length c,x]).run P w=.ok (.slice (some ⟨g,0,none⟩) (es.length + 1) c) (w.setRow g (q4_ cur (es.length * 2) [.int .u32 0,qs_])):=by
    have hxc:(Builtin.firstCells 2 1 x).run P w=.ok [Value.int .u32 0,qs_].toArray w:=hx.cells
    rcases hx.kind with ⟨e',hk⟩ | hk <;> simp [Builtin.append_,run_underlying ht,sizeOf,typeInfo,hi,hsz,hx.len,hroom,hxc,Addr.add_lit,hst,q4_]
   have hfit:es.length * 2 + [Value.int .u32 0,qs_].length<=cur.size:=by simp only [List.length_cons,List.length_nil];omega
   refine ⟨_,_,hr,.inr ⟨g,c,_,by rw [List.length_append];rfl,hgL,setRow_heap _ _ _ _ _ _ hg,by rw [List.length_append];exact hroom,hcm,by rw [zv_ hfit];exact hcs,fun j e hj=>?_⟩,qc_.setRow _ _ _ _ rfl,fun k hk=>.inl hk⟩
   by_cases hjb:j < es.length
   ·rw [List.getElem?_append_left hjb] at hj
    obtain ⟨h1,h2⟩:=hat j e hj
    rw [jl_ hfit _ (.inl (by omega)),jl_ hfit _ (.inl (by omega))]
    exact ⟨h1,h2⟩
   ·rw [List.getElem?_append_right (by omega)] at hj
    obtain ⟨hj0,rfl⟩:=z0 _ _ hj
    have hje:j=es.length:=by omega
    subst hje
    have a1:=ze_ hfit 0 (by simp)
    have a2:=ze_ hfit 1 (by simp)
    exact ⟨by simpa [tgZero] using a1,by simpa [tgZero] using a2⟩
  ·have key:∃ v' w',(Builtin.append_ #[S.tGs,S.tGs] S.tGs #[.slice (some ⟨g,0,none⟩) es.length c,x]).run P w=.ok v' w'/\zb_ w' L S.tG v' (es++[tgZero])/\qc_ (fun _=>False) w w'/\∀ k,v'.ownBlock=some k->w.heap.size<=k:=by
    refine grown (some ⟨g,0,none⟩) c (cur.toList.take (es.length * 2)) (by rw [List.length_take,hcl];omega) (by omega) ?_ (fun j e hj=>?_)
    ·have hl:=run_loadCells_list (P:=P) w.drew ⟨g,0,none⟩ (cur.toList.take (es.length * 2)) (fun j u hj=>by
      rw [List.getElem?_take] at hj
      split at hj
      ·rw [Addr.add_lit]
       have hg':w.drew.heap[g]?=some (.cells cur S.tG (0,0)):=hg
       simp [World.cell?,hg',<- hj]
      ·cases hj)
     have hll:(cur.toList.take (es.length * 2)).length=es.length * 2:=by rw [List.length_take,hcl];omega
     rw [hll] at hl
     simp [Builtin.firstCells,hsz,hl]
    ·have hjl:=(List.getElem?_eq_some_iff.1 hj).1
     obtain ⟨h1,h2⟩:=hat j e hj
     rw [List.getElem?_take,if_pos (by omega),List.getElem?_take,if_pos (by omega)]
     exact ⟨by simpa using h1,by simpa using h2⟩
   obtain ⟨v',w',a1,a2,a3,a4⟩:=key
   exact ⟨v',w',a1,a2,a3.mono fun _ _ h=>h.elim,fun k hk=>.inr (a4 k hk)⟩
theorem ins_at (k:Nat) (v:Bs):∀ (l:List (Nat × Bs)) (i:Nat),i<=l.length->(∀ j p,j < i->l[j]?=some p->p.1 < k)->(∀ p,l[i]?=some p->k<=p.1) ->
  jq_ k v l=if (∃ p,l[i]?=some p/\p.1=k) then l else l.take i++(k,v) :: l.drop i
 | [],i,hi,_,_=>by
  obtain rfl:i=0:=by simpa using hi
  simp [jq_]
 | (j,u) :: r,0,_,_,hge=>by
  have h1:=hge (j,u) rfl
  simp only [jq_]
  by_cases hk:k < j
  ·rw [if_pos hk,if_neg (fun ⟨p,hp,he⟩=>by simp at hp;subst hp;simp only at he;omega)]
   simp
  ·have hkj:k=j:=by simp only at h1;omega
   rw [if_neg hk,if_pos hkj,if_pos ⟨(j,u),rfl,hkj.symm⟩]
 | (j,u) :: r,i + 1,hi,hlt,hge=>by
  have h0:j < k:=hlt 0 (j,u) (by omega) rfl
  have ih:=ins_at k v r i (by simpa using hi) (fun q p hq hp=>hlt (q + 1) p (by omega) (by simpa using hp)) (fun p hp=>hge p (by simpa using hp))
  simp only [jq_]
  rw [if_neg (by omega),if_neg (by omega),ih]
  simp only [List.getElem?_cons_succ]
  split <;> simp
section
variable {P:Program} {ops:Array Oper} {C:World->Prop} {Q:Act->Prop} {r:List Oper} {n:Nat} {a:Act} {l:List (Nat × Value)}
theorem sq_nil (h:Q a):wpQuiet P ops C Q [] a:=h
theorem sq_any {o:Oper} (h:St n a l) {d:Nat} {v:Value} (hod:o.dst=some d) (hw:Region.wanted o (yielded ops a.tmps)=true) (hrun:∀ w,C w->(execOp a.eval o).run P w=.ok (.value v) w) (hd:d < n) (c:∀ a',St n a' ((d,v) :: l)->wpQuiet P ops C Q r a'):wpQuiet P ops C Q (o :: r) a:=by
 show if _ then _ else _
 rw [if_pos hw]
 refine ⟨v,fun w hC=>?_,?_⟩
 ·unfold Oper.quietAt
  rw [hrun w hC]
  exact ⟨rfl,rfl⟩
 ·rw [hod]
  exact c _ (h.put v hd)
theorem sq_op {op:Op} (h:St n a l) {d:Nat} {v:Value} (hrun:∀ w,C w->(execOp a.eval (mk (some d) op)).run P w=.ok (.value v) w) (hd:d < n) (c:∀ a',St n a' ((d,v) :: l)->wpQuiet P ops C Q r a'):wpQuiet P ops C Q (mk (some d) op :: r) a:=
 sq_any h rfl (by simp [Region.wanted,mk]) hrun hd c
theorem sq_gd {op:Op} (h:St n a l) {d j jd:Nat} {b:Bool} {v:Value} {o:Oper} (ho:ops[j]?=some o) (hod:o.dst=some jd) (hj:l.lookup jd=some (.bool b)) (hjn:jd < n) (hrun:∀ w,C w->(execOp a.eval (mk (some d) op)).run P w=.ok (.value v) w) (hd:d < n) (c:∀ a',St n a' ((d,v) :: l)->wpQuiet P ops C Q r a'):wpQuiet P ops C Q (gd d op j b :: r) a:=
 sq_any h rfl (by have hy:=jk_ ho hod (by rw [h.size];exact hjn) (h.get _ _ hj);simp [Region.wanted,gd,hy]) (fun w hC=>by
  have:execOp a.eval (gd d op j b)=execOp a.eval (mk (some d) op):=by simp only [execOp,mk,gd]
  rw [this];exact hrun w hC) hd c
theorem q8_ {o2:Oper} (h:St n a l) {d j jd:Nat} {b b':Bool} {o:Oper} (hd2:o2.dst=some d) (hg2:o2.guard=some (j,b)) (ho:ops[j]?=some o) (hod:o.dst=some jd) (hj:l.lookup jd=some (.bool b')) (hjn:jd < n) (hb:b' ≠ b) (hd:d < n) (c:∀ a',St n a' ((d,undef) :: l)->wpQuiet P ops C Q r a'):wpQuiet P ops C Q (o2 :: r) a:=by
 have hy:=jk_ ho hod (by rw [h.size];exact hjn) (h.get _ _ hj)
 show if _ then _ else _
 rw [if_neg (by simp [Region.wanted,hg2,hy,hb]),hd2]
 exact c _ (h.put _ hd)
theorem sq_none {o2:Oper} (h:St n a l) {d j jd:Nat} {b:Bool} {o:Oper} (hd2:o2.dst=some d) (hg2:o2.guard=some (j,b)) (ho:ops[j]?=some o) (hod:o.dst=some jd) (hj:l.lookup jd=some undef) (hjn:jd < n) (hd:d < n) (c:∀ a',St n a' ((d,undef) :: l)->wpQuiet P ops C Q r a'):wpQuiet P ops C Q (o2 :: r) a:=by
 have hy:yielded ops a.tmps j=none:=by
  have:a.tmps[jd]?=some undef:=by
   have h1:=h.get _ _ hj
   rw [<- h1]
   simp [Act.get,h.size,hjn]
  simp [yielded,ho,hod,this,undef]
 show if _ then _ else _
 rw [if_neg (by simp [Region.wanted,hg2,hy]),hd2]
 exact c _ (h.put _ hd)
variable {w:World}
theorem zw_ (h:St n a l) {d:Nat} {x:Operand} {v:Value} (hx:Hd l x v):(execOp a.eval (mk (some d) (.move x))).run P w=.ok (.value v) w:=by simp [execOp,mk,hx n a h]
theorem rn_fld (h:St n a l) {d:Nat} {x:Operand} {TT k F B O off sz:Nat} {agg:Bool} (hx:Hd l x (pt B O)) (hF:jr_ P TT k F off agg sz):(execOp a.eval (mk (some d) (.fieldAddr TT x k))).run P w=.ok (.value (pt B (O + off))) w:=by
 obtain ⟨fs,f,h1,h2,h3,h4⟩:=hF.fld
 obtain ⟨q,rfl⟩:∃ q,sz=q + 1:=⟨sz - 1,by have:=hF.pos;omega⟩
 have e:=hx n a h
 simp only [pt] at e
 have hn:∀ w,(sizeOf f.type).run P w=.ok (q + 1) w:=fun w=>by rw [h4];exact hF.var.size w
 simp [execOp,mk,e,Instr.fieldAt,run_underlying h1,h2,h3,fieldPlace,hn,Instr.sureAddr,Addr.add_lit,pt]
theorem rn_load1 (h:St n a l) {d:Nat} {x:Operand} {F B O sz:Nat} {v:Value} (hx:Hd l x (pt B O)) (hF:jo_ P F false sz) (hv:w.cell? ⟨B,O,none⟩=some v):(execOp a.eval (mk (some d) (.load F x))).run P w=.ok (.value v) w:=by
 have e:=hx n a h
 simp only [pt] at e
 simp [execOp,mk,e,Instr.loadAt,Instr.sureAddr,loadVar,hF.agg w,load,hv,Sem.run]
theorem rn_cmp (h:St n a l) {d T:Nat} {x y:Operand} {op:BinOp} {k:IntKind} {p q:Int} (hc:isCmp op=true) (hx:Hd l x (.int k p)) (hy:Hd l y (.int k q)):(execOp a.eval (mk (some d) (.binOp op T x y 0))).run P w=.ok (.value (.bool (qz_ op p q))) w:=by
 have he:(eqGuard op T x y (.int k p) (.int k q)).run P w=.ok () w:=by
  unfold eqGuard
  cases op <;> simp
 simp only [execOp,mk,hx n a h,hy n a h,Sem.run_bind,he,Result.andThen_ok,run_cmp (cmpB_ok hc p q),Sem.run_pure]
theorem rn_pick (h:St n a l) {d:Nat} {x y z:Operand} {b':Bool} {u v:Value} (hx:Hd l x (.bool b')) (hy:Hd l y u) (hz:Hd l z v):(execOp a.eval (mk (some d) (.pick x y z))).run P w=.ok (.value (if b' then u else v)) w:=by
 cases b' <;> simp [execOp,mk,hx n a h,hy n a h,hz n a h,asBool]
theorem rn_index (h:St n a l) {d:Nat} {x y:Operand} {F E b o m c i sz:Nat} {k:IntKind} (hx:Hd l x (.slice (some ⟨b,o,none⟩) m c)) (hy:Hd l y (.int k (i:Nat))) (hi:i < m) (hF:P.underlying F=some (.slice E)) (hs:∀ w,(sizeOf E).run P w=.ok sz w):(execOp a.eval (mk (some d) (.indexAddr F x y))).run P w=.ok (.value (pt b (o + i * sz))) w:=by
 simp [execOp,mk,hx n a h,hy n a h,Instr.indexAt,asIntOf,run_underlying hF,hs,hi,Addr.add_lit,pt]
theorem rn_len (h : St n a l) {d F E ty m c : Nat} {x : Operand} {g : Option (Nat × Bool)} {base : Option Addr} (hx : Hd l x (.slice base m c)) (hF : P.underlying F = some (.slice E)) : (execOp a.eval ⟨some d, .call ⟨.builtin .len, #[x], #[F]⟩, ty, "", #[], g⟩).run P w = .ok (.value (.int .i64 (m : Int))) w := by
 simp [execOp,resolve,invoke,builtin,hx n a h,Builtin.len_,run_underlying hF,goInt]
end
end Go.Proofs.Ytbgklecbmhaadaa.Kx

namespace Go.Proofs.Ytbgklecbmhaadaa.Kx
open Go
set_option maxRecDepth 4000
def tgPair (e:TgE):Nat × Bs:=(e.k.toNat,e.b)
theorem shift_set {es:List TgE} {p:Nat} {junk e:TgE} (hp:es[p]?=some e):(es.take (p + 1)++junk :: es.drop (p + 1)).set (p + 1) e=es.take p++e :: es.drop p:=by
 have hlt:=(List.getElem?_eq_some_iff.1 hp).1
 have e1:es.take (p + 1)=es.take p++[e]:=by rw [List.take_add_one,hp];rfl
 have e2:es.drop p=e :: es.drop (p + 1):=by rw [List.drop_eq_getElem_cons hlt,(List.getElem?_eq_some_iff.1 hp).2]
 have hl:(es.take (p + 1)).length=p + 1:=by rw [List.length_take];omega
 rw [List.set_append_right _ _ (by omega),hl,Nat.sub_self,List.set_cons_zero,e1,e2]
 simp
theorem last_set {es:List TgE} {p:Nat} {junk e:TgE} (hp:p<=es.length):(es.take p++junk :: es.drop p).set p e=es.take p++e :: es.drop p:=by
 have hl:(es.take p).length=p:=by rw [List.length_take];omega
 rw [List.set_append_right _ _ (by omega),hl,Nat.sub_self,List.set_cons_zero]
section
variable {P:Program} {S:SN}
theorem un_find (T:RefT P S) {W:World} {L:Nat} {v sv:Value} {es:List TgE} {k:UInt32} {g8:Nat} {x5 x17 x18 x19:Value} (ho:zb_ W L S.tG v es) (h8:qf_ W g8 0 [.int .u32 (k.toNat:Int),sv]) (hlen:es.length<=40000) {a:Act} {w:World} (hkw:qc_ (fun _=>False) W w)
  (h:St 85 a [(5,x5),(6,v),(8,pt g8 0),(9,.int .i64 0),(17,x17),(18,x18),(19,x19)]) {R:Exit->Act->World->Prop}
  (hR:∀ (a':Act) (w':World) (j:Nat),St 85 a' [(5,x5),(6,v),(8,pt g8 0),(9,.int .i64 (j:Int)),(17,x17),(18,x18),(19,x19)]->qc_ (fun _=>False) W w'->j<=es.length->(∀ j' e,j' < j->es[j']?=some e->e.k.toNat < k.toNat)->(∀ e,es[j]?=some e->k.toNat<=e.k.toNat)->R .normal a' w') :
  NWP P (.block 2 (.loop (.seq (.seq (.region 2 (oun_7 S).toArray true) (.cond (tm 36) .skip (.exit 2))) (.block 3 (rg (oun_8 S)))))) R a w:=by
 obtain ⟨bx,cx,hv,_⟩:=ho.form
 refine z2_ (fun m a' w'=>∃ j:Nat,j + m=es.length/\qc_ (fun _=>False) W w'/\(∀ j' e,j' < j->es[j']?=some e->e.k.toNat < k.toNat)/\St 85 a' [(5,x5),(6,v),(8,pt g8 0),(9,.int .i64 (j:Int)),(17,x17),(18,x18),(19,x19)]) es.length
  ⟨es.length,Nat.le_refl _,0,by omega,hkw,fun j' e hj=>by omega,h⟩ ?_
 rintro m a w hm ⟨j,hjm,hk,hlt,h⟩
 have test:∀ (bb:Bool) (KK:Exit->Act->World->Prop),bb=decide (∃ e,es[j]?=some e/\e.k.toNat < k.toNat)->(∀ a' w',St 85 a' [(36,.bool bb),(5,x5),(6,v),(8,pt g8 0),(9,.int .i64 (j:Int)),(17,x17),(18,x18),(19,x19)]->qc_ (fun _=>False) W w'->KK .normal a' w')->NWP P (.region 2 (oun_7 S).toArray true) KK a w:=by
  intro bb KK hbb hKK
  refine .drq (fun w'=>qc_ (fun _=>False) W w') (hk.trans (qc_.drew _ _)) ?_
  refine sq_op h (fun w' hC=>zw_ h (.t rfl)) (by omega) fun a h=>sq_op h (fun w' hC=>zw_ h (.t rfl)) (by omega) fun a h=>?_
  have h':=h
  rw [hv] at h'
  refine sq_any h rfl (by simp [Region.wanted,bi]) (fun w' hC=>rn_len h' (.t rfl) T.dGs) (by omega) fun a h=>?_
  refine sq_op h (fun w' hC=>rn_cmp h rfl (.t rfl) (.t rfl)) (by omega) fun a h=>sq_op h (fun w' hC=>zw_ h (.t rfl)) (by omega) fun a h=>?_
  cases hb:qz_ .lss (j:Int) (es.length:Int) with
  | false=>
   rw [hb] at h
   have hge:es.length<=j:=by simp [qz_] at hb;omega
   refine q8_ h rfl rfl rfl rfl rfl (by omega) (by simp) (by omega) fun a h=>q8_ h rfl rfl rfl rfl rfl (by omega) (by simp) (by omega) fun a h=>q8_ h rfl rfl rfl rfl rfl (by omega) (by simp) (by omega) fun a h=>q8_ h rfl rfl rfl rfl rfl (by omega) (by simp) (by omega) fun a h=>?_
   refine q8_ h rfl rfl rfl rfl rfl (by omega) (by simp) (by omega) fun a h=>q8_ h rfl rfl rfl rfl rfl (by omega) (by simp) (by omega) fun a h=>q8_ h rfl rfl rfl rfl rfl (by omega) (by simp) (by omega) fun a h=>q8_ h rfl rfl rfl rfl rfl (by omega) (by simp) (by omega) fun a h=>?_
   refine sq_op h (fun w' hC=>rn_pick h (.t rfl) (.t rfl) .c) (by omega) fun a h=>sq_nil fun w' hC=>hKK _ _ ?_ hC
   have:bb=false:=by
    rw [hbb]
    refine decide_eq_false fun ⟨e,he,_⟩=>?_
    rw [List.getElem?_eq_none hge] at he
    cases he
   subst this
   exact h.pick ⟨rfl,rfl,rfl,rfl,rfl,rfl,rfl,rfl,trivial⟩
  | true=>
   rw [hb] at h
   have hjl:j < es.length:=by simp [qz_] at hb;omega
   obtain ⟨e,he⟩:∃ e,es[j]?=some e:=⟨_,List.getElem?_eq_getElem hjl⟩
   obtain ⟨g,c,hvg,_,hcell⟩:=ho.get he
   refine sq_gd h rfl rfl rfl (by omega) (fun w' hC=>zw_ h (.t rfl)) (by omega) fun a h=>sq_gd h rfl rfl rfl (by omega) (fun w' hC=>zw_ h (.t rfl)) (by omega) fun a h=>?_
   have h':=h
   rw [hvg] at h'
   refine sq_gd h rfl rfl rfl (by omega) (fun w' hC=>rn_index h' (sz:=2) (.t rfl) (.t rfl) hjl T.dGs T.vG.size) (by omega) fun a h=>sq_gd h rfl rfl rfl (by omega) (fun w' hC=>rn_fld h (.t rfl) T.g0) (by omega) fun a h=>?_
   refine sq_gd h rfl rfl rfl (by omega) (fun w' hC=>rn_load1 h (.t rfl) T.g0.var ((qf_.kn hC hcell).at (j:=0) rfl)) (by omega) fun a h=>sq_gd h rfl rfl rfl (by omega) (fun w' hC=>rn_fld h (.t rfl) T.g0) (by omega) fun a h=>?_
   refine sq_gd h rfl rfl rfl (by omega) (fun w' hC=>rn_load1 h (.t rfl) T.g0.var ((qf_.kn hC h8).at (j:=0) rfl)) (by omega) fun a h=>sq_gd h rfl rfl rfl (by omega) (fun w' hC=>rn_cmp h rfl (.t rfl) (.t rfl)) (by omega) fun a h=>?_
   refine sq_op h (fun w' hC=>rn_pick h (.t rfl) (.t rfl) .c) (by omega) fun a h=>sq_nil fun w' hC=>hKK _ _ ?_ hC
   have:bb=qz_ .lss (e.k.toNat:Int) (k.toNat:Int):=by
    rw [hbb]
    simp only [qz_]
    refine decide_eq_decide.2 ⟨fun ⟨e',he',hl⟩=>?_,fun hl=>⟨e,he,by omega⟩⟩
    rw [he] at he'
    obtain rfl:=Option.some.inj he'
    omega
   rw [this]
   have h:=h.pick (m:=[(36,if true=true then Value.bool (qz_ .lss (e.k.toNat:Int) (k.toNat:Int)) else Value.bool false),(5,x5),(6,v),(8,pt g8 0),(9,.int .i64 (j:Int)),(17,x17),(18,x18),(19,x19)]) ⟨rfl,rfl,rfl,rfl,rfl,rfl,rfl,rfl,trivial⟩
   simpa using h
 by_cases hex:∃ e,es[j]?=some e/\e.k.toNat < k.toNat
 ·refine qt_ (qt_ (test true _ (by simp [hex]) fun a w h hk=>?_))
  refine ja_ h rfl (fun _=>?_) (fun hb=>by cases hb)
  obtain ⟨e,he,hle⟩:=hex
  have hjl:=(List.getElem?_eq_some_iff.1 he).1
  refine .skip (.block (nrg (qe_ h (.t rfl) (by omega) fun a h=>j2_ h (.t rfl) .i (by simp) (j0_ w) (by omega) fun a h=>?_)))
  have hw:IntKind.i64.wrap ((j:Int) + 1)=((j + 1:Nat):Int):=by simp [IntKind.wrap,IntKind.bits,IntKind.signed];omega
  rw [hw] at h
  refine qd_ h (.t rfl) (by omega) fun a h=>wpList_nil ?_
  refine ⟨m - 1,by omega,by omega,j + 1,by omega,hk,fun j' e' hj' he'=>?_,h.pick ⟨rfl,rfl,rfl,rfl,rfl,rfl,rfl,trivial⟩⟩
  rcases Nat.lt_or_ge j' j with hc | hc
  ·exact hlt j' e' hc he'
  ·obtain rfl:j'=j:=by omega
   rw [he] at he'
   obtain rfl:=Option.some.inj he'
   exact hle
 ·refine qt_ (qt_ (test false _ (by simp [hex]) fun a w h hk=>?_))
  refine ja_ h rfl (fun hb=>by cases hb) (fun _=>?_)
  refine .exit (hR a w j (h.pick ⟨rfl,rfl,rfl,rfl,rfl,rfl,rfl,trivial⟩) hk (by omega) hlt fun e he=>?_)
  rcases Nat.lt_or_ge e.k.toNat k.toNat with hc | hc
  ·exact absurd ⟨e,he,hc⟩ hex
  ·exact hc
end
end Go.Proofs.Ytbgklecbmhaadaa.Kx

namespace Go.Proofs.Ytbgklecbmhaadaa.Kx
open Go
set_option maxRecDepth 4000
section
variable {P:Program} {S:SN}
theorem un_test (T:RefT P S) {W:World} {L:Nat} {v sv:Value} {es:List TgE} {k:UInt32} {g8 j least:Nat} {x17 x18 x19:Value} (ho:zb_ W L S.tG v es) (h8:qf_ W g8 0 [.int .u32 (k.toNat:Int),sv]) {a:Act} {w:World} (hk:qc_ (fun _=>False) W w)
  (h:St 85 a [(5,.int .u32 (least:Int)),(6,v),(8,pt g8 0),(9,.int .i64 (j:Int)),(17,x17),(18,x18),(19,x19)]) (_hj:j<=es.length) {KK:Exit->Act->World->Prop} (bb:Bool) (hbb:bb=decide (k.toNat < least \/ ∃ e,es[j]?=some e/\e.k.toNat=k.toNat))
  (hKK:∀ a' w',St 85 a' [(58,.bool bb),(5,.int .u32 (least:Int)),(6,v),(8,pt g8 0),(9,.int .i64 (j:Int)),(17,x17),(18,x18),(19,x19)]->qc_ (fun _=>False) W w'->KK .normal a' w'):NWP P (.region 2 (oun_9 S).toArray true) KK a w:=by
 obtain ⟨bx,cx,hv,_⟩:=ho.form
 refine .drq (fun w'=>qc_ (fun _=>False) W w') (hk.trans (qc_.drew _ _)) ?_
 refine sq_op h (fun w' hC=>rn_fld h (.t rfl) T.g0) (by omega) fun a h=>sq_op h (fun w' hC=>rn_load1 h (.t rfl) T.g0.var ((qf_.kn hC h8).at (j:=0) rfl)) (by omega) fun a h=>?_
 refine sq_op h (fun w' hC=>zw_ h (.t rfl)) (by omega) fun a h=>sq_op h (fun w' hC=>rn_cmp h rfl (.t rfl) (.t rfl)) (by omega) fun a h=>sq_op h (fun w' hC=>zw_ h (.t rfl)) (by omega) fun a h=>?_
 cases hb:qz_ .lss (k.toNat:Int) (least:Int) with
 | true=>
  rw [hb] at h
  have hlt:k.toNat < least:=by simp [qz_] at hb;omega
  refine q8_ h rfl rfl rfl rfl rfl (by omega) (by simp) (by omega) fun a h=>q8_ h rfl rfl rfl rfl rfl (by omega) (by simp) (by omega) fun a h=>q8_ h rfl rfl rfl rfl rfl (by omega) (by simp) (by omega) fun a h=>q8_ h rfl rfl rfl rfl rfl (by omega) (by simp) (by omega) fun a h=>q8_ h rfl rfl rfl rfl rfl (by omega) (by simp) (by omega) fun a h=>?_
  refine sq_none h rfl rfl rfl rfl rfl (by omega) (by omega) fun a h=>sq_none h rfl rfl rfl rfl rfl (by omega) (by omega) fun a h=>sq_none h rfl rfl rfl rfl rfl (by omega) (by omega) fun a h=>sq_none h rfl rfl rfl rfl rfl (by omega) (by omega) fun a h=>?_
  refine sq_none h rfl rfl rfl rfl rfl (by omega) (by omega) fun a h=>sq_none h rfl rfl rfl rfl rfl (by omega) (by omega) fun a h=>sq_none h rfl rfl rfl rfl rfl (by omega) (by omega) fun a h=>sq_none h rfl rfl rfl rfl rfl (by omega) (by omega) fun a h=>?_
  refine q8_ h rfl rfl rfl rfl rfl (by omega) (by simp) (by omega) fun a h=>sq_op h (fun w' hC=>rn_pick h (.t rfl) .c (.t rfl)) (by omega) fun a h=>sq_nil fun w' hC=>hKK _ _ ?_ hC
  have:bb=true:=by rw [hbb];exact decide_eq_true (.inl hlt)
  subst this
  exact h.pick ⟨rfl,rfl,rfl,rfl,rfl,rfl,rfl,rfl,trivial⟩
 | false=>
  rw [hb] at h
  have hnl:¬ k.toNat < least:=by simp [qz_] at hb;omega
  refine sq_gd h rfl rfl rfl (by omega) (fun w' hC=>zw_ h (.t rfl)) (by omega) fun a h=>sq_gd h rfl rfl rfl (by omega) (fun w' hC=>zw_ h (.t rfl)) (by omega) fun a h=>?_
  have h':=h
  rw [hv] at h'
  refine sq_any h rfl (by have hy:=jk_ (a:=a) (ops:=(oun_9 S).toArray) (j:=4) (d:=43) (b:=false) rfl rfl (by rw [h.size];omega) (h.get 43 _ rfl);simp [Region.wanted,hy]) (fun w' hC=>rn_len h' (.t rfl) T.dGs) (by omega) fun a h=>?_
  refine sq_gd h rfl rfl rfl (by omega) (fun w' hC=>rn_cmp h rfl (.t rfl) (.t rfl)) (by omega) fun a h=>sq_gd h rfl rfl rfl (by omega) (fun w' hC=>zw_ h (.t rfl)) (by omega) fun a h=>?_
  cases hb2:qz_ .lss (j:Int) (es.length:Int) with
  | false=>
   rw [hb2] at h
   have hge:es.length<=j:=by simp [qz_] at hb2;omega
   refine q8_ h rfl rfl rfl rfl rfl (by omega) (by simp) (by omega) fun a h=>q8_ h rfl rfl rfl rfl rfl (by omega) (by simp) (by omega) fun a h=>q8_ h rfl rfl rfl rfl rfl (by omega) (by simp) (by omega) fun a h=>q8_ h rfl rfl rfl rfl rfl (by omega) (by simp) (by omega) fun a h=>?_
   refine q8_ h rfl rfl rfl rfl rfl (by omega) (by simp) (by omega) fun a h=>q8_ h rfl rfl rfl rfl rfl (by omega) (by simp) (by omega) fun a h=>q8_ h rfl rfl rfl rfl rfl (by omega) (by simp) (by omega) fun a h=>q8_ h rfl rfl rfl rfl rfl (by omega) (by simp) (by omega) fun a h=>?_
   refine sq_gd h rfl rfl rfl (by omega) (fun w' hC=>rn_pick h (.t rfl) (.t rfl) .c) (by omega) fun a h=>sq_op h (fun w' hC=>rn_pick h (.t rfl) .c (.t rfl)) (by omega) fun a h=>sq_nil fun w' hC=>hKK _ _ ?_ hC
   have:bb=false:=by
    rw [hbb]
    refine decide_eq_false fun hh=>?_
    rcases hh with hh | ⟨e,he,_⟩
    ·exact hnl hh
    ·rw [List.getElem?_eq_none hge] at he
     cases he
   subst this
   exact h.pick ⟨rfl,rfl,rfl,rfl,rfl,rfl,rfl,rfl,trivial⟩
  | true=>
   rw [hb2] at h
   have hjl:j < es.length:=by simp [qz_] at hb2;omega
   obtain ⟨e,he⟩:∃ e,es[j]?=some e:=⟨_,List.getElem?_eq_getElem hjl⟩
   obtain ⟨g,c,hvg,_,hcell⟩:=ho.get he
   refine sq_gd h rfl rfl rfl (by omega) (fun w' hC=>zw_ h (.t rfl)) (by omega) fun a h=>sq_gd h rfl rfl rfl (by omega) (fun w' hC=>zw_ h (.t rfl)) (by omega) fun a h=>?_
   have h':=h
   rw [hvg] at h'
   refine sq_gd h rfl rfl rfl (by omega) (fun w' hC=>rn_index h' (sz:=2) (.t rfl) (.t rfl) hjl T.dGs T.vG.size) (by omega) fun a h=>sq_gd h rfl rfl rfl (by omega) (fun w' hC=>rn_fld h (.t rfl) T.g0) (by omega) fun a h=>?_
   refine sq_gd h rfl rfl rfl (by omega) (fun w' hC=>rn_load1 h (.t rfl) T.g0.var ((qf_.kn hC hcell).at (j:=0) rfl)) (by omega) fun a h=>sq_gd h rfl rfl rfl (by omega) (fun w' hC=>rn_fld h (.t rfl) T.g0) (by omega) fun a h=>?_
   refine sq_gd h rfl rfl rfl (by omega) (fun w' hC=>rn_load1 h (.t rfl) T.g0.var ((qf_.kn hC h8).at (j:=0) rfl)) (by omega) fun a h=>sq_gd h rfl rfl rfl (by omega) (fun w' hC=>rn_cmp h rfl (.t rfl) (.t rfl)) (by omega) fun a h=>?_
   refine sq_gd h rfl rfl rfl (by omega) (fun w' hC=>rn_pick h (.t rfl) (.t rfl) .c) (by omega) fun a h=>sq_op h (fun w' hC=>rn_pick h (.t rfl) .c (.t rfl)) (by omega) fun a h=>sq_nil fun w' hC=>hKK _ _ ?_ hC
   have:bb=qz_ .eql (e.k.toNat:Int) (k.toNat:Int):=by
    rw [hbb]
    simp only [qz_]
    refine decide_eq_decide.2 ⟨fun hh=>?_,fun hl=>.inr ⟨e,he,by omega⟩⟩
    rcases hh with hh | ⟨e',he',hl⟩
    ·exact absurd hh hnl
    ·rw [he] at he'
     obtain rfl:=Option.some.inj he'
     omega
   rw [this]
   have h:=h.pick (m:=[(58,if false=true then Value.bool true else if true=true then Value.bool (qz_ .eql (e.k.toNat:Int) (k.toNat:Int)) else Value.bool false),(5,.int .u32 (least:Int)),(6,v),(8,pt g8 0),(9,.int .i64 (j:Int)),(17,x17),(18,x18),(19,x19)]) ⟨rfl,rfl,rfl,rfl,rfl,rfl,rfl,rfl,trivial⟩
   simpa using h
theorem un_insert (T:RefT P S) {W:World} {L:Nat} {v sv:Value} {es:List TgE} {k:UInt32} {b:Bs} {g8 j:Nat} {x5 x17 x18 x19:Value} (ho:zb_ W L S.tG v es) (h8:qf_ W g8 0 [.int .u32 (k.toNat:Int),sv]) (hone:sv.oneCell'=true) (hg8:∀ i,v.ownBlock=some i->i ≠ g8) (hg8s:g8 < W.heap.size) (hL:L<=W.heap.size) (hlen:es.length<=39999) (hones:∀ e ∈ es,e.v.oneCell'=true) {a:Act}
  (h:St 85 a [(5,x5),(6,v),(8,pt g8 0),(9,.int .i64 (j:Int)),(17,x17),(18,x18),(19,x19)]) (hj:j<=es.length) {R:Exit->Act->World->Prop}
  (hR:∀ a' w' v',St 85 a' [(5,x5),(6,v'),(17,x17),(18,x18),(19,x19)]->zb_ w' L S.tG v' (es.take j++⟨k,sv,b⟩ :: es.drop j)->qc_ (fun i=>L<=i) W w'->R .normal a' w') :
  NWP P (.seq (rg (oun_10 S)) (.seq (.seq (rg (oun_11 S)) (.block 4 (.loop (.seq (.seq (rg (oun_12 S)) (.cond (tm 68) .skip (.exit 4))) (.seq (.block 5 (rg (oun_13 S))) (rg (oun_14 S))))))) (rg (oun_15 S)))) R a W:=by
 refine qt_ (nrg (qe_ h (.t rfl) (by omega) fun a h=>st_build h (qs:=#[]) (fun _ _ _=>by simp) (T.bG W) (by omega) fun a h=>?_))
 refine qp_ (v:=.slice (some ⟨W.heap.size,0,none⟩) 1 1) (w':=W.alloc (.cells #[.int .u32 0,qs_] S.tG (0,0))) ?_ ?_
 ·have e:=Hd.t (l:=_) (i:=60) rfl _ a h
  simp [execOp,mk,e,T.bSG]
 have h:=h.put (d:=61) (.slice (some ⟨W.heap.size,0,none⟩) 1 1) (by omega)
 have hka:qc_ (fun _=>False) W (W.alloc (.cells #[.int .u32 0,qs_] S.tG (0,0))):=qc_.alloc _ _ _
 have hna:=qk_ W (.cells #[.int .u32 0,qs_] S.tG (0,0))
 generalize W.alloc (.cells #[.int .u32 0,qs_] S.tG (0,0))=w1 at hka hna ⊢
 have hsrc:Src P 2 S.tGs (.slice (some ⟨W.heap.size,0,none⟩) 1 1) 1 [.int .u32 0,qs_] w1:=Src.ofSlice w1 T.dGs ⟨W.heap.size,0,none⟩ 1 1 _ rfl (fun q u hq=>by
  rw [Addr.add_lit]
  match q,hq with
  | 0,hq=>simp at hq;subst hq;simp [World.cell?,hna]
  | 1,hq=>simp at hq;subst hq;simp [World.cell?,hna]
  | q + 2,hq=>simp at hq) (fun u hu=>by
   simp only [List.mem_cons,List.not_mem_nil,or_false] at hu
   rcases hu with rfl | rfl <;> rfl)
 have ho1:zb_ w1 L S.tG v es:=ho.keep hka fun _ _ h=>h
 obtain ⟨v2,w2,hrun,ho2,hk2,hown2⟩:=run_append_out T ho1 hsrc (Nat.le_trans hL hka.size) (by omega)
 refine st_bi h (v:=v2) (w':=w2) (by simp [execOp,bi,resolve,invoke,builtin,Hd.t (l:=_) (i:=59) rfl _ _ h,Hd.t (l:=_) (i:=61) rfl _ _ h,hrun]) (by omega) fun a h=>qd_ h (.t rfl) (by omega) fun a h=>wpList_nil ?_
 have h82:qf_ w2 g8 0 [.int .u32 (k.toNat:Int),sv]:=fun q x hq=>hk2.cell (fun hX=>hg8 _ hX rfl) (hka.cell id (h8 q x hq))
 have hkL2:qc_ (fun i=>L<=i) W w2:=(hka.mono fun _ _ h=>h.elim).trans (hk2.mono fun i _ hi=>(ho1.own hi).1)
 have hne2:∀ i,v2.ownBlock=some i->i ≠ g8:=fun i hi=>by
  rcases hown2 i hi with h1 | h1
  ·exact hg8 i h1
  ·have:=hka.size;omega
 obtain ⟨bx,cx,hv2,_⟩:=ho2.form
 rw [List.length_append] at hv2
 have hv2':v2=.slice bx (es.length + 1) cx:=hv2
 refine qt_ (qt_ (nrg (qe_ h (.t rfl) (by omega) fun a h=>?_)))
 have h':=h
 rw [hv2'] at h'
 refine zd_ h' (.t rfl) T.dGs (by omega) fun a h=>j2_ h (.t rfl) .i (by simp) (run_subi w2) (by omega) fun a h=>?_
 have hw0:IntKind.i64.wrap (((es.length + 1:Nat):Int) - 1)=(es.length:Int):=by simp [IntKind.wrap,IntKind.bits,IntKind.signed];omega
 rw [hw0] at h
 rw [<- hv2'] at h
 refine qd_ h (.t rfl) (by omega) fun a h=>wpList_nil ?_
 refine z2_ (fun m a' w'=>∃ (p:Nat) (junk:TgE),p=j + m/\p<=es.length/\zb_ w' L S.tG v2 (es.take p++junk :: es.drop p)/\qf_ w' g8 0 [.int .u32 (k.toNat:Int),sv]/\qc_ (fun i=>L<=i) W w' /\
   St 85 a' [(5,x5),(6,v2),(8,pt g8 0),(9,.int .i64 (j:Int)),(10,.int .i64 (p:Int)),(17,x17),(18,x18),(19,x19)]) es.length
  ⟨es.length - j,by omega,es.length,tgZero,by omega,Nat.le_refl _,by rw [List.take_length,List.drop_length];exact ho2,h82,hkL2,h.pick ⟨rfl,rfl,rfl,rfl,rfl,rfl,rfl,rfl,trivial⟩⟩ ?_
 rintro m a w hm ⟨p,junk,hpm,hpl,hop,h8w,hkw,h⟩
 have hLlen:(es.take p++junk :: es.drop p).length=es.length + 1:=by simp [List.length_take];omega
 refine qt_ (qt_ (nrg (qe_ h (.t rfl) (by omega) fun a h=>qe_ h (.t rfl) (by omega) fun a h=>q2_ h rfl (.t rfl) (.t rfl) (by omega) fun a h=>wpList_nil ?_)))
 refine ja_ h rfl (fun hb=>?_) (fun hb=>?_)
 ·have hgt:j < p:=by simp [qz_] at hb;omega
  obtain ⟨q,rfl⟩:∃ q,p=q + 1:=⟨p - 1,by omega⟩
  obtain ⟨e,he⟩:∃ e,es[q]?=some e:=⟨_,List.getElem?_eq_getElem (by omega)⟩
  have hge:(es.take (q + 1)++junk :: es.drop (q + 1))[q]?=some e:=by
   rw [List.getElem?_append_left (by rw [List.length_take];omega),List.getElem?_take,if_pos (by omega),he]
  have hop0:=hop
  obtain ⟨g,c,hvg,_,hcell⟩:=hop.get hge
  rcases hop with ⟨hn,_⟩ | ⟨g',c',cur,hvg',hLg,hgc,hlc,hcm,hcs,hat⟩
  ·rw [hn] at hvg;cases hvg
  obtain ⟨rfl,rfl⟩:g'=g/\c'=c:=by
   rw [hvg] at hvg'
   simp only [Value.slice.injEq,Option.some.injEq,Addr.mk.injEq,and_true,true_and] at hvg'
   exact ⟨hvg'.1.symm,hvg'.2.symm⟩
  rw [hLlen] at hvg hlc
  refine .skip (qt_ (.block (nrg ?_)))
  refine qe_ h (.t rfl) (by omega) fun a h=>qe_ h (.t rfl) (by omega) fun a h=>qe_ h (.t rfl) (by omega) fun a h=>qe_ h (.t rfl) (by omega) fun a h=>j2_ h (.t rfl) .i (by simp) (run_subi w) (by omega) fun a h=>?_
  have hw1:IntKind.i64.wrap (((q + 1:Nat):Int) - 1)=(q:Int):=by simp [IntKind.wrap,IntKind.bits,IntKind.signed];omega
  rw [hw1] at h
  have hone2:e.v.oneCell'=true:=hones e (List.mem_of_getElem? he)
  have h':=h
  rw [hvg] at h'
  refine zj_ h' (sz:=2) (.t rfl) (.t rfl) (by omega) T.dGs T.vG.size (by omega) fun a h=>jh_ h (cs:=[.int .u32 (e.k.toNat:Int),e.v]) (.t rfl) T.vG hcell (by omega) fun a h=>zj_ h (sz:=2) (.t rfl) (.t rfl) (by omega) T.dGs T.vG.size (by omega) fun a h=>?_
  have hcz:(q + 1) * 2 + 2<=cur.size:=by omega
  refine j5_ (g:=g') (o:=0 + (q + 1) * 2) (cur:=cur) (t:=S.tG) (vs:=[.int .u32 (e.k.toNat:Int),e.v]) (h.get 78 _ rfl) (h.get 77 _ rfl) (by simp [Value.cells]) (T.vG.size w) hgc (by simp only [List.length_cons,List.length_nil];omega) (fun u hu=>by
   simp only [List.mem_cons,List.not_mem_nil,or_false] at hu
   rcases hu with rfl | rfl
   ·rfl
   ·exact hone2) (wpList_nil ?_)
  have hset:=zb_.set (w:=w) (L:=L) (tG:=S.tG) hLlen hLg hgc hlc hcm hcs hat (i:=q + 1) (by omega) e
  rw [shift_set he] at hset
  rw [Nat.zero_add]
  have hks:qc_ (fun i=>i=g') w (w.setRow g' (q4_ cur ((q + 1) * 2) [.int .u32 (e.k.toNat:Int),e.v])):=qc_.setRow _ _ _ _ rfl
  have hg8':g' ≠ g8:=hne2 g' (by rw [hvg];rfl)
  generalize w.setRow g' (q4_ cur ((q + 1) * 2) [.int .u32 (e.k.toNat:Int),e.v])=w' at hset hks ⊢
  have h:=h.pick (m:=[(5,x5),(6,.slice (some ⟨g',0,none⟩) (es.length + 1) c'),(8,pt g8 0),(9,.int .i64 (j:Int)),(10,.int .i64 ((q + 1:Nat):Int)),(17,x17),(18,x18),(19,x19)]) ⟨rfl,rfl,rfl,rfl,rfl,rfl,rfl,rfl,trivial⟩
  rw [<- hvg] at h hset
  refine nrg (qe_ h (.t rfl) (by omega) fun a h=>j2_ h (.t rfl) .i (by simp) (run_subi w') (by omega) fun a h=>?_)
  rw [hw1] at h
  refine qd_ h (.t rfl) (by omega) fun a h=>wpList_nil ?_
  refine ⟨m - 1,by omega,by omega,q,e,by omega,by omega,hset,fun y x hy=>hks.cell (fun hX=>hg8' hX.symm) (h8w y x hy),hkw.trans (hks.mono fun i _ hi=>hi ▸ hLg),h.pick ⟨rfl,rfl,rfl,rfl,rfl,rfl,rfl,rfl,trivial⟩⟩
 ·have hpj:p=j:=by simp [qz_] at hb;omega
  subst hpj
  refine .exit ?_
  show NWP P _ _ a w
  have hop0:=hop
  have hj0:(es.take p++junk :: es.drop p)[p]?=some junk:=by
   have hl:(es.take p).length=p:=by rw [List.length_take];omega
   rw [List.getElem?_append_right (by omega),hl,Nat.sub_self];rfl
  obtain ⟨g,c,hvg,_,_⟩:=hop0.get hj0
  rcases hop with ⟨hn,_⟩ | ⟨g',c',cur,hvg',hLg,hgc,hlc,hcm,hcs,hat⟩
  ·rw [hn] at hvg;cases hvg
  obtain ⟨rfl,rfl⟩:g'=g/\c'=c:=by
   rw [hvg] at hvg'
   simp only [Value.slice.injEq,Option.some.injEq,Addr.mk.injEq,and_true,true_and] at hvg'
   exact ⟨hvg'.1.symm,hvg'.2.symm⟩
  rw [hLlen] at hvg hlc
  refine nrg (qe_ h (.t rfl) (by omega) fun a h=>qe_ h (.t rfl) (by omega) fun a h=>jh_ h (cs:=[.int .u32 (k.toNat:Int),sv]) (.t rfl) T.vG h8w (by omega) fun a h=>?_)
  have h':=h
  rw [hvg] at h'
  refine zj_ h' (sz:=2) (.t rfl) (.t rfl) (by omega) T.dGs T.vG.size (by omega) fun a h=>?_
  refine j5_ (g:=g') (o:=0 + p * 2) (cur:=cur) (t:=S.tG) (vs:=[.int .u32 (k.toNat:Int),sv]) (h.get 82 _ rfl) (h.get 81 _ rfl) (by simp [Value.cells]) (T.vG.size w) hgc (by simp only [List.length_cons,List.length_nil];omega) (fun u hu=>by
   simp only [List.mem_cons,List.not_mem_nil,or_false] at hu
   rcases hu with rfl | rfl
   ·rfl
   ·exact hone) (wpList_nil ?_)
  have hset:=zb_.set (w:=w) (L:=L) (tG:=S.tG) hLlen hLg hgc hlc hcm hcs hat (i:=p) (by omega) ⟨k,sv,b⟩
  rw [last_set hpl] at hset
  rw [Nat.zero_add]
  have hks:qc_ (fun i=>i=g') w (w.setRow g' (q4_ cur (p * 2) [.int .u32 (k.toNat:Int),sv])):=qc_.setRow _ _ _ _ rfl
  have h:=h.pick (m:=[(5,x5),(6,.slice (some ⟨g',0,none⟩) (es.length + 1) c'),(17,x17),(18,x18),(19,x19)]) ⟨rfl,rfl,rfl,rfl,rfl,trivial⟩
  rw [<- hvg] at h hset
  exact hR _ _ v2 h hset (hkw.trans (hks.mono fun i _ hi=>hi ▸ hLg))
theorem un_calls0 (T:RefT P S) (hKE:Ent P S.fKnown) (hK:∀ (sf:SFs) (fv:Value) (w:World),zy_ sf=true->FsRp w sf fv->Calls P S.fKnown [fv].toArray w fun e w'=>e=.returned (.int .u32 (qn_ sf:Int))/\qc_ (fun _=>False) w w') (hfn:FnIs P S.fUnk 85 [4] (csUn S))
  (sf:SFs) (fv uv:Value) (raw:List (UInt32 × Bs)) (W0 W:World) (htb:zy_ sf=true) (hfs:FsRp W sf fv) (hraw:RowRp W 2 (TagRp W0) uv raw):Calls P S.fUnk [fv,uv].toArray W fun e w'=>∃ v es,e=.returned v/\zb_ w' W.heap.size S.tG v es/\(∀ e ∈ es,OcRp W0 e.v e.b)/\es.map tgPair=sUnk (qn_ sf) (raw.map fun p=>(p.1.toNat,p.2))/\qc_ (fun _=>False) W w':=by
 have hkl:=sKnown_le sf htb
 refine z0_ T.mixed hfn (by simp) _ (by simp) fun a h=>?_
 unfold csUn
 refine qt_ (nrg (qd_ h .c (by omega) fun a h=>wpList_nil ?_))
 refine qt_ (nrg (qe_ h (.t rfl) (by omega) fun a h=>?_))
 refine q3_ h hKE (vs:=[fv]) (fun n a h=>by simp only [List.map_cons,List.map_nil];rw [Hd.t (l:=_) (i:=11) rfl n a h]) (hK sf fv W htb hfs) (by omega) fun e w1 hR1=>?_
 obtain ⟨rfl,hk1⟩:=hR1
 refine ⟨_,rfl,fun a h=>qd_ h (.t rfl) (by omega) fun a h=>wpList_nil ?_⟩
 refine qt_ (nrg (qd_ h .c (by omega) fun a h=>wpList_nil ?_))
 have hf1:Fa0 W w1:=Fa0.of hk1
 obtain ⟨base,c,hub,hc1,hc2,hbc,hrow⟩:∃ base c,uv=.slice base raw.length c/\raw.length<=c/\raw.length<=maxLen/\(base=none->c=0)/\(raw=[] \/ ∃ b o,base=some ⟨b,o,none⟩/\∀ i x,raw[i]?=some x->∃ cs,cs.length=2/\qf_ W b (o + i * 2) cs/\TagRp W0 cs x):=by
  rcases hraw with ⟨_,rfl,rfl⟩ | ⟨b,o,c,rfl,h1,h2,h3⟩
  ·exact ⟨_,0,rfl,Nat.le_refl _,by simp [maxLen],fun _=>rfl,.inl rfl⟩
  ·exact ⟨_,c,rfl,h1,by omega,(fun h=>by cases h),.inr ⟨b,o,rfl,h3⟩⟩
 subst hub
 refine qt_ (qt_ (nrg (qe_ h (.t rfl) (by omega) fun a h=>qe_ h (.t rfl) (by omega) fun a h=>zd_ h (.t rfl) T.dGs (by omega) fun a h=>st_min h (.t rfl) .i (by omega) fun a h=>?_)))
 rw [min_most] at h
 refine st_sliceHi h (.t rfl) (.t rfl) (by omega) hbc T.dGs T.vG.size (by omega) fun a h=>zd_ h (.t rfl) T.dGs (by omega) fun a h=>qe_ h .i (by omega) fun a h=>wpList_nil ?_
 have hN:min raw.length zh_<=32767:=by simp only [zh_];omega
 have htl:(raw.take zh_).length=min raw.length zh_:=by rw [List.length_take,Nat.min_comm]
 refine z2_ (fun m a' w'=>∃ (i:Nat) (v:Value) (es:List TgE),i + m=min raw.length zh_/\zb_ w' W.heap.size S.tG v es/\Fa0 W w'/\(∀ e ∈ es,OcRp W0 e.v e.b)/\es.length<=i/\sUnkL (qn_ sf) (((raw.take zh_).drop i).map fun p=>(p.1.toNat,p.2)) (es.map tgPair)=sUnk (qn_ sf) (raw.map fun p=>(p.1.toNat,p.2)) /\
   St 85 a' [(5,.int .u32 (qn_ sf:Int)),(6,v),(17,.slice base (min raw.length zh_) c),(18,.int .i64 ((min raw.length zh_:Nat):Int)),(19,.int .i64 (i:Int))]) (min raw.length zh_)
  ⟨min raw.length zh_,Nat.le_refl _,0,qs_,[],by omega,.inl ⟨rfl,rfl⟩,hf1,(fun e he=>by cases he),by simp,by simp [sUnk,List.map_take],h.pick ⟨rfl,rfl,rfl,rfl,rfl,trivial⟩⟩ ?_
 rintro m a w hm ⟨i,v,es,him,ho,hk,hes,hel,htot,h⟩
 have hones:∀ e ∈ es,e.v.oneCell'=true:=fun e he=>by obtain ⟨_,_,h1,_⟩:=(hes e he).form;rw [h1];rfl
 refine qt_ (nrg (q2_ h rfl (.t rfl) (.t rfl) (by omega) fun a h=>wpList_nil ?_))
 refine st_test h rfl (fun hb=>?_) (fun hb=>?_)
 ·have hlt:i < min raw.length zh_:=by simp [qz_] at hb;omega
  obtain ⟨x,hx⟩:∃ x,raw[i]?=some x:=⟨_,List.getElem?_eq_getElem (by omega)⟩
  obtain ⟨b,o,hbe,hcells⟩:=hrow.resolve_left (fun hh=>by rw [hh] at hx;simp at hx)
  obtain ⟨cs,_,hcs,sv,rfl,hsv⟩:=hcells i x hx
  have hone:sv.oneCell'=true:=by obtain ⟨_,_,h1,_⟩:=hsv.form;rw [h1];rfl
  have hxt:(raw.take zh_)[i]?=some x:=by rw [List.getElem?_take,if_pos (by omega)];exact hx
  have hdrop:(raw.take zh_).drop i=x :: (raw.take zh_).drop (i + 1):=by
   rw [List.drop_eq_getElem_cons (by rw [htl];omega),(List.getElem?_eq_some_iff.1 hxt).2]
  rw [hdrop] at htot
  simp only [List.map_cons,sUnkL] at htot
  have step:∀ (a:Act) (w':World) (v':Value) (es':List TgE) (KK:Exit->Act->World->Prop),St 85 a [(5,.int .u32 (qn_ sf:Int)),(6,v'),(17,.slice base (min raw.length zh_) c),(18,.int .i64 ((min raw.length zh_:Nat):Int)),(19,.int .i64 (i:Int))]->zb_ w' W.heap.size S.tG v' es'->Fa0 W w'->(∀ e ∈ es',OcRp W0 e.v e.b)->es'.length<=i + 1 ->
    es'.map tgPair=(if x.1.toNat < qn_ sf then es.map tgPair else jq_ x.1.toNat x.2 (es.map tgPair)) ->
    NWP P (rg (oun_16 S)) (Exit.then (fun a' w'=>∃ m',m'<=min raw.length zh_/\m' < m/\∃ (i:Nat) (v:Value) (es:List TgE),i + m'=min raw.length zh_/\zb_ w' W.heap.size S.tG v es/\Fa0 W w'/\(∀ e ∈ es,OcRp W0 e.v e.b)/\es.length<=i/\sUnkL (qn_ sf) (((raw.take zh_).drop i).map fun p=>(p.1.toNat,p.2)) (es.map tgPair)=sUnk (qn_ sf) (raw.map fun p=>(p.1.toNat,p.2)) /\
     St 85 a' [(5,.int .u32 (qn_ sf:Int)),(6,v),(17,.slice base (min raw.length zh_) c),(18,.int .i64 ((min raw.length zh_:Nat):Int)),(19,.int .i64 (i:Int))]) KK) a w':=by
   intro a w' v' es' KK h ho' hk' hes' hel' hmap
   refine nrg (j2_ h (.t rfl) .i (by simp) (j0_ w') (by omega) fun a h=>?_)
   have hw:IntKind.i64.wrap ((i:Int) + 1)=((i + 1:Nat):Int):=by simp [IntKind.wrap,IntKind.bits,IntKind.signed];omega
   rw [hw] at h
   refine qe_ h (.t rfl) (by omega) fun a h=>wpList_nil ?_
   exact ⟨m - 1,by omega,by omega,i + 1,v',es',by omega,ho',hk',hes',hel',by rw [hmap];exact htot,h.pick ⟨rfl,rfl,rfl,rfl,rfl,trivial⟩⟩
  refine .skip (qt_ (.block (qt_ (nrg ?_))))
  have h0:=h
  rw [hbe] at h0
  refine zj_ h0 (sz:=2) (.t rfl) (.t rfl) hlt T.dGs T.vG.size (by omega) fun a h=>jh_ h (cs:=[.int .u32 (x.1.toNat:Int),sv]) (.t rfl) T.vG (hk.cells hcs) (by omega) fun a h=>?_
  have honec:∀ u ∈ [Value.int .u32 (x.1.toNat:Int),sv],u.oneCell'=true:=by
   intro u hu
   simp only [List.mem_cons,List.not_mem_nil,or_false] at hu
   rcases hu with rfl | rfl
   ·rfl
   ·exact hone
  refine st_newvar h (cs:=[.int .u32 (x.1.toNat:Int),sv]) T.zG rfl (fun _=>.t rfl) T.vG.size honec (by omega) fun w2 a hk2 hc2 h=>wpList_nil ?_
  have ho2:zb_ w2 W.heap.size S.tG v es:=ho.keep hk2 fun _ _ h=>h
  have hf2:=hk.kn hk2
  have hg8s:w.heap.size < w2.heap.size:=lt_of_cell (hc2 0 _ rfl)
  have hg8:∀ q,v.ownBlock=some q->q ≠ w.heap.size:=fun q hq=>by have:=(ho.own hq).2;omega
  refine qt_ (nrg (qd_ h .i (by omega) fun a h=>wpList_nil ?_))
  have h:=h.pick (m:=[(5,.int .u32 (qn_ sf:Int)),(6,v),(8,pt w.heap.size 0),(9,.int .i64 0),(17,.slice (some ⟨b,o,none⟩) (min raw.length zh_) c),(18,.int .i64 ((min raw.length zh_:Nat):Int)),(19,.int .i64 (i:Int))]) ⟨rfl,rfl,rfl,rfl,rfl,rfl,rfl,trivial⟩
  rw [<- hbe] at h
  refine qt_ (un_find T ho2 hc2 (by omega) (qc_.refl _ _) h fun a w3 j h hk3 hj hlt3 hge3=>?_)
  have ho3:zb_ w3 W.heap.size S.tG v es:=ho2.keep hk3 fun _ _ h=>h
  have hc3:=qf_.kn hk3 hc2
  have hf3:=hf2.kn hk3
  have hins:=ins_at x.1.toNat x.2 (es.map tgPair) j (by simpa using hj) (fun j' p hj' hp=>by
   rw [List.getElem?_map,Option.map_eq_some_iff] at hp
   obtain ⟨e,he,rfl⟩:=hp
   exact hlt3 j' e hj' he) (fun p hp=>by
   rw [List.getElem?_map,Option.map_eq_some_iff] at hp
   obtain ⟨e,he,rfl⟩:=hp
   exact hge3 e he)
  refine qt_ (qt_ (un_test T ho3 hc3 (qc_.refl _ _) h hj (decide (x.1.toNat < qn_ sf \/ ∃ e,es[j]?=some e/\e.k.toNat=x.1.toNat)) rfl fun a w4 h hk4=>?_))
  have ho4:zb_ w4 W.heap.size S.tG v es:=ho3.keep hk4 fun _ _ h=>h
  have hc4:=qf_.kn hk4 hc3
  have hf4:=hf3.kn hk4
  refine ja_ h rfl (fun hbb=>?_) (fun hbb=>?_)
  ·have hyes:=of_decide_eq_true hbb
   refine .exit ?_
   refine step a w4 v es _ (h.pick ⟨rfl,rfl,rfl,rfl,rfl,trivial⟩) ho4 hf4 hes (by omega) ?_
   by_cases hl:x.1.toNat < qn_ sf
   ·rw [if_pos hl]
   ·rw [if_neg hl]
    obtain ⟨e,he,hek⟩:=hyes.resolve_left hl
    rw [hins,if_pos ⟨tgPair e,by rw [List.getElem?_map,he];rfl,hek⟩]
  ·have hno:=of_decide_eq_false hbb
   refine .skip ?_
   have hs4:W.heap.size<=w4.heap.size:=hf4.size
   refine un_insert T (b:=x.2) ho4 hc4 hone hg8 (Nat.lt_of_lt_of_le hg8s (Nat.le_trans hk3.size hk4.size)) hs4 (by omega) hones (h.pick ⟨rfl,rfl,rfl,rfl,rfl,rfl,rfl,trivial⟩) hj fun a w5 v5 h ho5 hk5=>?_
   refine step a w5 v5 _ _ (h.pick ⟨rfl,rfl,rfl,rfl,rfl,trivial⟩) ho5 (hf4.up hk5 fun q hq=>hq) (fun e he=>?_) (by simp [List.length_take];omega) ?_
   ·rcases List.mem_append.1 he with he | he
    ·exact hes e (List.mem_of_mem_take he)
    ·rcases List.mem_cons.1 he with rfl | he
     ·exact hsv
     ·exact hes e (List.mem_of_mem_drop he)
   ·have hne:¬ ∃ p,(es.map tgPair)[j]?=some p/\p.1=x.1.toNat:=by
     rintro ⟨p,hp,hpe⟩
     rw [List.getElem?_map,Option.map_eq_some_iff] at hp
     obtain ⟨e,he,rfl⟩:=hp
     exact hno (.inr ⟨e,he,hpe⟩)
    rw [if_neg (fun hl=>hno (.inl hl)),hins,if_neg hne,List.map_append,List.map_cons,List.map_take,List.map_drop]
    rfl
 ·have hge:¬ i < min raw.length zh_:=by simp [qz_] at hb;omega
  rw [List.drop_of_length_le (by rw [htl];omega)] at htot
  simp only [List.map_nil,sUnkL] at htot
  refine .exit ?_
  show NWP P _ _ a w
  refine qt_ (nrg (qe_ h (.t rfl) (by omega) fun a h=>qd_ h (.t rfl) (by omega) fun a h=>wpList_nil (.ret ?_)))
  exact ret1 (RR:=fun e w'=>∃ v es,e=.returned v/\zb_ w' W.heap.size S.tG v es/\(∀ e ∈ es,OcRp W0 e.v e.b)/\es.map tgPair=sUnk (qn_ sf) (raw.map fun p=>(p.1.toNat,p.2))/\qc_ (fun _=>False) W w') h rfl ⟨v,es,rfl,ho,hes,htot,hk.keeps⟩
theorem un_calls (T:RefT P S) (hKE:Ent P S.fKnown) (hK:∀ (sf:SFs) (fv:Value) (w:World),zy_ sf=true->FsRp w sf fv->Calls P S.fKnown [fv].toArray w fun e w'=>e=.returned (.int .u32 (qn_ sf:Int))/\qc_ (fun _=>False) w w') (hfn:FnIs P S.fUnk 85 [4] (csUn S))
  (sf:SFs) (fv uv:Value) (raw:List (UInt32 × Bs)) (W:World) (htb:zy_ sf=true) (hfs:FsRp W sf fv) (hraw:RowRp W 2 (TagRp W) uv raw):Calls P S.fUnk [fv,uv].toArray W fun e w'=>∃ v raw',e=.returned v/\RowRp w' 2 (TagRp w') v raw'/\(raw'.map fun p=>(p.1.toNat,p.2))=sUnk (qn_ sf) (raw.map fun p=>(p.1.toNat,p.2))/\qc_ (fun _=>False) W w':=by
 refine (un_calls0 T hKE hK hfn sf fv uv raw W W htb hfs hraw).mono fun e w ⟨v,es,he,ho,hes,htot,hk⟩=>?_
 refine ⟨v,es.map (fun e=>(e.k,e.b)),he,?_,?_,hk⟩
 ·rcases ho with ⟨rfl,rfl⟩ | ⟨g,cc,cur,rfl,_,hg,hlc,hcm,_,hat⟩
  ·exact .inl ⟨none,rfl,rfl⟩
  ·refine .inr ⟨g,0,cc,by rw [List.length_map],by rw [List.length_map];exact hlc,hcm,fun q p hq=>?_⟩
   rw [List.getElem?_map,Option.map_eq_some_iff] at hq
   obtain ⟨e,he,rfl⟩:=hq
   obtain ⟨h1,h2⟩:=hat q e he
   have hcell:∀ y,w.cell? ⟨g,y,none⟩=cur[y]?:=fun y=>by simp [World.cell?,hg]
   refine ⟨[.int .u32 (e.k.toNat:Int),e.v],rfl,fun y z hy=>?_,e.v,rfl,(hes e (List.mem_of_getElem? he)).far (Fa0.of hk)⟩
   rw [hcell]
   match y,hy with
   | 0,hy=>simp only [List.getElem?_cons_zero,Option.some.injEq] at hy;subst hy;simpa using h1
   | 1,hy=>simp only [List.getElem?_cons_succ,List.getElem?_cons_zero,Option.some.injEq] at hy;subst hy;simpa using h2
   | y + 2,hy=>simp at hy
 ·rw [<- htot,List.map_map]
  rfl
end
end Go.Proofs.Ytbgklecbmhaadaa.Kx

namespace Go.Proofs.Ytbgklecbmhaadaa.Kx
open Go
set_option maxRecDepth 4000
abbrev BI:=List (Nat × Int) × Option Nat
def biParts (S:SN) (p:List (Nat × Int)) (x:Option Operand):Op:=.build S.tF ((p.map fun q=>(q.1,ki .i64 q.2))++(match x with | some y=>[(7,y)] | none=>[])).toArray
def gItems (S:SN):List BI->Nat->List Oper
 | [],_=>[]
 | (p,none) :: r,n=>mk (some n) (biParts S p none) :: gItems S r (n + 1)
 | (p,some f) :: r,n=>cl (some n) f [] :: mk (some (n + 1)) (biParts S p (some (tm n))) :: gItems S r (n + 2)
def gEnd':List BI->Nat->Nat
 | [],n=>n
 | (_,none) :: r,n=>gEnd' r (n + 1)
 | (_,some _) :: r,n=>gEnd' r (n + 2)
def gSlots:List BI->Nat->List Nat
 | [],_=>[]
 | (_,none) :: r,n=>n :: gSlots r (n + 1)
 | (_,some _) :: r,n=>(n + 1) :: gSlots r (n + 2)
def cSub (S:SN) (its:List BI):Code:=.seq (rg [mk (some 0) (.assign (.const qs_))]) (.seq (rg (gItems S its 1++[mk (some (gEnd' its 1)) (.buildSlice S.tFs its.length (ixs 0 (gSlots its 1)).toArray),mk (some 0) (.assign (tm (gEnd' its 1)))])) .ret)
def cMsgB (S:SN) (flex:Int) (its:List BI):Code:=.seq (rg [mk (some 0) (.alloc S.tMs)]) (.seq (rg (gItems S its 1++[mk (some (gEnd' its 1)) (.buildSlice S.tFs its.length (ixs 0 (gSlots its 1)).toArray),mk (some (gEnd' its 1 + 1)) (.build S.tMs #[(1,ki .i64 flex),(0,tm (gEnd' its 1))]),mk none (.store S.tMs (tm 0) (tm (gEnd' its 1 + 1)))])) .ret)
def BuildC (P:Program) (f:Nat) (sf:SFs):Prop:=∀ w,Calls P f ([]:List Value).toArray w fun e w'=>∃ v,e=.returned v/\FsRp w' sf v/\qc_ (fun _=>False) w w'
def bVals (p:List (Nat × Int)) (x:Option Value):Array (Nat × Value):=((p.map fun q=>(q.1,Value.int .i64 q.2))++(match x with | some y=>[(7,y)] | none=>[])).toArray
def BOk (P:Program) (S:SN):List BI->SFs->Prop
 | [],.nil=>True
 | (p,none) :: r,.cons kind lo hi nul tag df of sub sr=>(∀ w,(Instr.build S.tF (bVals p none)).run P w=.ok (.agg (qr_ kind lo hi nul tag df of qs_).toArray) w)/\sub=.nil/\BOk P S r sr
 | (p,some f) :: r,.cons kind lo hi nul tag df of sub sr=>(∀ (base:Option Addr) (n c:Nat) (w:World),(Instr.build S.tF (bVals p (some (.slice base n c)))).run P w=.ok (.agg (qr_ kind lo hi nul tag df of (.slice base n c)).toArray) w)/\(Ent P f/\BuildC P f sub)/\BOk P S r sr
 | _,_=>False
def fVals:SFs->(Nat->Value)->Nat->List Value
 | .nil,_,_=>[]
 | .cons kind lo hi nul tag df of _ r,sv,i=>.agg (qr_ kind lo hi nul tag df of (sv i)).toArray :: fVals r sv (i + 1)
def fAll:SFs->(Nat->Value)->Nat->List Value
 | .nil,_,_=>[]
 | .cons kind lo hi nul tag df of _ r,sv,i=>qr_ kind lo hi nul tag df of (sv i)++fAll r sv (i + 1)
def za_ (w:World):SFs->(Nat->Value)->Nat->Prop
 | .nil,_,_=>True
 | .cons _ _ _ _ _ _ _ sub r,sv,i=>FsRp w sub (sv i)/\za_ w r sv (i + 1)
theorem fVals_congr:∀ (sf:SFs) (sv sv':Nat->Value) (i:Nat),(∀ j,i<=j->sv j=sv' j)->fVals sf sv i=fVals sf sv' i
 | .nil,_,_,_,_=>rfl
 | .cons ..,sv,sv',i,h=>by
  simp only [fVals]
  rw [h i (Nat.le_refl _),fVals_congr _ sv sv' (i + 1) fun j hj=>h j (by omega)]
theorem za_.congr {w:World}:∀ (sf:SFs) (sv sv':Nat->Value) (i:Nat),(∀ j,i<=j->sv j=sv' j)->za_ w sf sv i->za_ w sf sv' i
 | .nil,_,_,_,_,_=>trivial
 | .cons ..,sv,sv',i,h,hh=>⟨by rw [<- h i (Nat.le_refl _)];exact hh.1,za_.congr _ sv sv' (i + 1) (fun j hj=>h j (by omega)) hh.2⟩
theorem FsRp.kn {w w':World} (h:qc_ (fun _=>False) w w') {sf:SFs} {v:Value} (hs:FsRp w sf v):FsRp w' sf v:=hs.far (Fa0.of h)
theorem za_.kn {w w':World} (h:qc_ (fun _=>False) w w'):∀ (sf:SFs) (sv:Nat->Value) (i:Nat),za_ w sf sv i->za_ w' sf sv i
 | .nil,_,_,_=>trivial
 | .cons ..,sv,i,hh=>⟨hh.1.kn h,za_.kn h _ sv (i + 1) hh.2⟩
theorem fsAt_of {w:World} {g:Nat}:∀ (sf:SFs) (sv:Nat->Value) (i o:Nat),za_ w sf sv i->qf_ w g o (fAll sf sv i)->FsAt w sf g o
 | .nil,_,_,_,_,_=>trivial
 | .cons kind lo hi nul tag df of sub r,sv,i,o,hh,hc=>by
  refine ⟨⟨sv i,fun j x hj=>hc j x ?_,hh.1⟩,fsAt_of r sv (i + 1) (o + 8) hh.2 fun j x hj=>?_⟩
  ·simp only [fAll]
   rw [List.getElem?_append_left (by have:=(List.getElem?_eq_some_iff.1 hj).1;exact this)]
   exact hj
  ·have:=hc (8 + j) x (by
    simp only [fAll]
    rw [List.getElem?_append_right (by simp [qr_])]
    simpa [qr_] using hj)
   rwa [show o + 8 + j=o + (8 + j) by omega]
section
variable {P:Program} {S:SN}
theorem bl_items {ops:Array Oper} {Q:Exit->Act->World->Prop} {rest:List Oper} {N:Nat}:∀ (its:List BI) (sf:SFs) (i n0:Nat) (a:Act) (l acc:List (Nat × Value)) (w:World),BOk P S its sf->St N a l->(∀ p ∈ acc,l.lookup p.1=some p.2/\p.1 < n0)->gEnd' its n0<=N ->
  (∀ a' l' w' sv,St N a' l'->(∀ p ∈ acc++(gSlots its n0).zip (fVals sf sv i),l'.lookup p.1=some p.2)->za_ w' sf sv i->(fVals sf sv i).length=its.length->qc_ (fun _=>False) w w'->wpList P ops Q rest a' w')->wpList P ops Q (gItems S its n0++rest) a w
 | [],.nil,i,n0,a,l,acc,w,_,h,hacc,_,hc=>hc a l w (fun _=>qs_) h (fun p hp=>(hacc p (by simpa [gSlots] using hp)).1) trivial rfl (qc_.refl _ _)
 | [],.cons ..,_,_,_,_,_,_,hb,_,_,_,_=>hb.elim
 | (p,none) :: r,.nil,_,_,_,_,_,_,hb,_,_,_,_=>hb.elim
 | (p,some f) :: r,.nil,_,_,_,_,_,_,hb,_,_,_,_=>hb.elim
 | (p,none) :: r,.cons kind lo hi nul tag df of sub sr,i,n0,a,l,acc,w,hb,h,hacc,hn,hc=>by
  obtain ⟨hb1,rfl,hb3⟩:=hb
  have hge:∀ (r:List BI) (n:Nat),n<=gEnd' r n:=fun r=>by
   induction r with
   | nil=>intro n;exact Nat.le_refl n
   | cons x r ih=>
    intro n
    obtain ⟨q,y⟩:=x
    cases y with
    | none=>exact Nat.le_trans (Nat.le_succ n) (ih (n + 1))
    | some _=>exact Nat.le_trans (Nat.le_add_right n 2) (ih (n + 2))
  have hn1:n0 < N:=Nat.lt_of_lt_of_le (Nat.lt_succ_self n0) (Nat.le_trans (hge r (n0 + 1)) hn)
  show wpList P ops Q (mk (some n0) (.build S.tF _) :: (gItems S r (n0 + 1)++rest)) a w
  refine st_build h (qs:=bVals p none) (fun n a _=>by simp [bVals,ki,Act.eval]) (hb1 w) hn1 fun a h=>?_
  refine bl_items r sr (i + 1) (n0 + 1) a _ (acc++[(n0,.agg (qr_ kind lo hi nul tag df of qs_).toArray)]) w hb3 h (fun q hq=>?_) hn fun a' l' w' sv h hl hf hlen hk=>?_
  ·rcases List.mem_append.1 hq with hq | hq
   ·obtain ⟨h1,h2⟩:=hacc q hq
    refine ⟨?_,by omega⟩
    simp only [List.lookup_cons]
    have:(q.1 == n0)=false:=by simp;omega
    rw [this];exact h1
   ·obtain rfl:=List.mem_singleton.1 hq
    exact ⟨by simp,by simp⟩
  ·have hcg:∀ j,i + 1<=j->sv j=(fun j=>if j=i then qs_ else sv j) j:=fun j hj=>by simp only;rw [if_neg (by omega)]
   refine hc a' l' w' (fun j=>if j=i then qs_ else sv j) h (fun q hq=>hl q ?_) ⟨by simp only [if_true];exact .inl ⟨rfl,rfl⟩,za_.congr sr _ _ _ hcg hf⟩ (by simp only [fVals,List.length_cons];rw [<- fVals_congr sr sv _ (i + 1) hcg,hlen]) hk
   simp only [gSlots,fVals,List.zip_cons_cons,if_true] at hq
   rw [<- fVals_congr sr sv _ (i + 1) hcg] at hq
   simpa using hq
 | (p,some f) :: r,.cons kind lo hi nul tag df of sub sr,i,n0,a,l,acc,w,hb,h,hacc,hn,hc=>by
  obtain ⟨hb1,⟨hE,hB⟩,hb3⟩:=hb
  have hge:∀ (r:List BI) (n:Nat),n<=gEnd' r n:=fun r=>by
   induction r with
   | nil=>intro n;exact Nat.le_refl n
   | cons x r ih=>
    intro n
    obtain ⟨q,y⟩:=x
    cases y with
    | none=>exact Nat.le_trans (Nat.le_succ n) (ih (n + 1))
    | some _=>exact Nat.le_trans (Nat.le_add_right n 2) (ih (n + 2))
  have hn1:n0 + 1 < N:=Nat.lt_of_lt_of_le (Nat.lt_succ_self _) (Nat.le_trans (hge r (n0 + 2)) hn)
  show wpList P ops Q (cl (some n0) f [] :: mk (some (n0 + 1)) (.build S.tF _) :: (gItems S r (n0 + 2)++rest)) a w
  refine q3_ h hE (vs:=[]) (fun _ _ _=>rfl) (hB w) (by omega) fun e w1 hR=>?_
  obtain ⟨v,rfl,hv,hk1⟩:=hR
  obtain ⟨vb,vc,hve,_⟩:=hv.form
  subst hve
  refine ⟨_,rfl,fun a h=>st_build h (qs:=bVals p (some (.slice vb sub.len vc))) (fun n a hs=>by
   have e:=Hd.t (l:=_) (i:=n0) (v:=.slice vb sub.len vc) (by simp) n a hs
   simp only [tm] at e
   simp [bVals,ki,Act.eval,tm] at e ⊢
   exact e) (hb1 vb _ vc w1) hn1 fun a h=>?_⟩
  refine bl_items r sr (i + 1) (n0 + 2) a _ (acc++[(n0 + 1,.agg (qr_ kind lo hi nul tag df of (.slice vb sub.len vc)).toArray)]) w1 hb3 h (fun q hq=>?_) hn fun a' l' w' sv h hl hf hlen hk=>?_
  ·rcases List.mem_append.1 hq with hq | hq
   ·obtain ⟨h1,h2⟩:=hacc q hq
    refine ⟨?_,by omega⟩
    simp only [List.lookup_cons]
    have e1:(q.1 == n0 + 1)=false:=by simp;omega
    have e2:(q.1 == n0)=false:=by simp;omega
    rw [e1,e2];exact h1
   ·obtain rfl:=List.mem_singleton.1 hq
    exact ⟨by simp,by simp⟩
  ·have hcg:∀ j,i + 1<=j->sv j=(fun j=>if j=i then .slice vb sub.len vc else sv j) j:=fun j hj=>by simp only;rw [if_neg (by omega)]
   refine hc a' l' w' (fun j=>if j=i then .slice vb sub.len vc else sv j) h (fun q hq=>hl q ?_) ⟨by simp only [if_true];exact hv.kn hk,za_.congr sr _ _ _ hcg hf⟩ (by simp only [fVals,List.length_cons];rw [<- fVals_congr sr sv _ (i + 1) hcg,hlen]) (hk1.trans hk)
   simp only [gSlots,fVals,List.zip_cons_cons,if_true] at hq
   rw [<- fVals_congr sr sv _ (i + 1) hcg] at hq
   simpa using hq
theorem map_get_zip {a:Act}:∀ (ss:List Nat) (vs:List Value),ss.length=vs.length->(∀ p ∈ ss.zip vs,a.get p.1=p.2)->ss.map a.get=vs
 | [],[],_,_=>rfl
 | [],_ :: _,h,_=>by simp at h
 | _ :: _,[],h,_=>by simp at h
 | s :: ss,v :: vs,h,hh=>by
  have h1:=hh (s,v) (by simp)
  have h2:=map_get_zip ss vs (by simpa using h) fun p hp=>hh p (by simp only [List.zip_cons_cons];exact List.mem_cons_of_mem _ hp)
  simp only [List.map_cons,h2]
  rw [h1]
theorem gSlots_len:∀ (its:List BI) (n:Nat),(gSlots its n).length=its.length
 | [],_=>rfl
 | (_,none) :: r,n=>by simp [gSlots,gSlots_len r]
 | (_,some _) :: r,n=>by simp [gSlots,gSlots_len r]
def RowB (P:Program) (S:SN) (n:Nat) (sf:SFs):Prop:=∀ (sv:Nat->Value) (w:World),(Instr.buildSlice S.tFs n (prs 0 (fVals sf sv 0)).toArray).run P w=.ok (.slice (some ⟨w.heap.size,0,none⟩) n n) (w.alloc (.cells (fAll sf sv 0).toArray S.tF (0,0)))
theorem bl_row {ops:Array Oper} {Q:Exit->Act->World->Prop} {rest:List Oper} {N:Nat} {its:List BI} {sf:SFs} {a:Act} {l:List (Nat × Value)} {w:World} (hb:BOk P S its sf) (hrow:RowB P S its.length sf) (hlen:its.length=sf.len) (hmax:sf.len<=maxLen) (h:St N a l) (hn:gEnd' its 1 < N) (_hz:l.lookup 0=l.lookup 0)
  (hc:∀ a' l' w' v,St N a' ((gEnd' its 1,v) :: l')->(l.lookup 0).all (fun _v0=>true)=true->(∀ x,l.lookup 0=some x->l'.lookup 0=some x)->FsRp w' sf v->qc_ (fun _=>False) w w'->wpList P ops Q rest a' w'):wpList P ops Q (gItems S its 1++(mk (some (gEnd' its 1)) (.buildSlice S.tFs its.length (ixs 0 (gSlots its 1)).toArray) :: rest)) a w:=by
 have h0:∀ p ∈ (match l.lookup 0 with | some x=>[(0,x)] | none=>[]),l.lookup p.1=some p.2/\p.1 < 1:=by
  cases hx:l.lookup 0 with
  | none=>intro p hp;cases hp
  | some x=>intro p hp;obtain rfl:=List.mem_singleton.1 hp;exact ⟨hx,by simp⟩
 refine bl_items its sf 0 1 a l _ w hb h h0 (by omega) fun a l' w1 sv h hl hf hvl hk=>?_
 have hev:(gSlots its 1).map a.get=fVals sf sv 0:=map_get_zip _ _ (by rw [gSlots_len,hvl]) fun p hp=>h.get _ _ (hl p (List.mem_append_right _ hp))
 have hix:=ixs_eval a (gSlots its 1) 0
 rw [hev] at hix
 refine qp_ (v:=.slice (some ⟨w1.heap.size,0,none⟩) its.length its.length) (w':=w1.alloc (.cells (fAll sf sv 0).toArray S.tF (0,0))) ?_ ?_
 ·have e:(ixs 0 (gSlots its 1)).toArray.map (fun p=>(p.1,a.eval p.2))=(prs 0 (fVals sf sv 0)).toArray:=by rw [List.map_toArray,hix]
  simp [execOp,mk,e,hrow sv w1]
 ·have hk2:qc_ (fun _=>False) w1 (w1.alloc (.cells (fAll sf sv 0).toArray S.tF (0,0))):=qc_.alloc _ _ _
  refine hc _ l' _ _ (h.put _ hn) (by cases l.lookup 0 <;> rfl) (fun x hx=>hl (0,x) (List.mem_append_left _ (by rw [hx];exact List.mem_singleton.2 rfl))) (.inr ⟨w1.heap.size,0,_,by rw [hlen],hmax,?_⟩) (hk.trans hk2)
  exact fsAt_of sf sv 0 0 (za_.kn hk2 sf sv 0 hf) (jn_ w1 (fAll sf sv 0) S.tF)
theorem sub_calls (T:RefT P S) {f N:Nat} {its:List BI} {sf:SFs} (hfn:FnIs P f N [0] (cSub S its)) (hn:gEnd' its 1 < N) (hb:BOk P S its sf) (hrow:RowB P S its.length sf) (hlen:its.length=sf.len) (hmax:sf.len<=maxLen):Ent P f/\BuildC P f sf:=by
 refine ⟨hfn.ent,fun w=>?_⟩
 refine z0_ T.mixed hfn (by simp) [] (by simp) fun a h=>?_
 unfold cSub
 refine qt_ (nrg (qd_ h .c (by omega) fun a h=>wpList_nil ?_))
 refine qt_ (nrg (bl_row hb hrow hlen hmax h hn rfl fun a l' w' v h _ _ hv hk=>qd_ h (v:=v) (.t (by simp)) (by omega) fun a h=>wpList_nil (.ret ?_)))
 exact ret1 (RR:=fun e w'=>∃ v,e=.returned v/\FsRp w' sf v/\qc_ (fun _=>False) w w') h rfl ⟨v,rfl,hv,hk⟩
def MsgBC (P:Program) (f:Nat) (flex:Int) (sf:SFs):Prop:=∀ w,Calls P f ([]:List Value).toArray w fun e w'=>∃ v,e=.returned (.agg [v,.int .i64 flex].toArray)/\FsRp w' sf v/\qc_ (fun _=>False) w w'
theorem msgb_calls (T:RefT P S) (bM:∀ (x:Int) (base:Option Addr) (n c:Nat) (w:World),(Instr.build S.tMs #[(1,.int .i64 x),(0,.slice base n c)]).run P w=.ok (.agg #[.slice base n c,.int .i64 x]) w) {f N:Nat} {flex:Int} {its:List BI} {sf:SFs} (hfn:FnIsC P f N 0 S.tMs (cMsgB S flex its)) (hn:gEnd' its 1 + 1 < N) (hb:BOk P S its sf) (hrow:RowB P S its.length sf) (hlen:its.length=sf.len) (hmax:sf.len<=maxLen):Ent P f/\MsgBC P f flex sf:=by
 refine ⟨hfn.ent,fun w=>?_⟩
 refine callsTC T.mixed hfn [] (by simp) fun a h=>?_
 unfold cMsgB
 refine qt_ (nrg (j6_ h (T.zM w) (by omega) fun a h=>wpList_nil ?_))
 have hn0:=qk_ w (.cells (Value.agg #[qs_,.int .i64 0]).cells S.tMs (0,0))
 have hk0:qc_ (fun _=>False) w (w.alloc (.cells (Value.agg #[qs_,.int .i64 0]).cells S.tMs (0,0))):=qc_.alloc _ _ _
 generalize w.alloc (.cells (Value.agg #[qs_,.int .i64 0]).cells S.tMs (0,0))=w1 at hn0 hk0 ⊢
 refine qt_ (nrg (bl_row hb hrow hlen hmax h (by omega) rfl fun a l' w2 v h _ h0 hv hk=>?_))
 have h0':=h0 _ rfl
 obtain ⟨vb,vc,hve,_⟩:=hv.form
 have hng:¬ gEnd' its 1=0:=by
  intro hg
  have:∀ (r:List BI) (n:Nat),n<=gEnd' r n:=fun r=>by
   induction r with
   | nil=>intro n;exact Nat.le_refl n
   | cons x r ih=>
    intro n
    obtain ⟨q,y⟩:=x
    cases y with
    | none=>exact Nat.le_trans (Nat.le_succ n) (ih (n + 1))
    | some _=>exact Nat.le_trans (Nat.le_add_right n 2) (ih (n + 2))
  have:=this its 1
  omega
 refine st_build h (qs:=#[(1,.int .i64 flex),(0,v)]) (fun n a hs=>by
  have e:=Hd.t (l:=_) (i:=gEnd' its 1) (v:=v) (by simp) n a hs
  simp only [tm] at e
  simp [ki,Act.eval,tm] at e ⊢
  exact e) (by rw [hve];exact bM flex vb _ vc w2) hn fun a h=>?_
 rw [<- hve] at h
 have hg0:w2.heap[w.heap.size]?=some (.cells (Value.agg #[qs_,.int .i64 0]).cells S.tMs (0,0)):=by rw [hk.block _ (Array.getElem?_eq_some_iff.1 hn0).1 id];exact hn0
 have hone:∀ u ∈ [v,.int .i64 flex],u.oneCell'=true:=by
  intro u hu
  simp only [List.mem_cons,List.not_mem_nil,or_false] at hu
  rcases hu with rfl | rfl
  ·rw [hve];rfl
  ·rfl
 have l0:((gEnd' its 1 + 1,Value.agg #[v,.int .i64 flex]) :: (gEnd' its 1,v) :: l').lookup 0=some (pt w.heap.size 0):=by
  simp only [List.lookup_cons]
  have e1:((0:Nat) == gEnd' its 1 + 1)=false:=by simp
  have e2:((0:Nat) == gEnd' its 1)=false:=by simp;omega
  rw [e1,e2];exact h0'
 refine zq_ h (cs:=[v,.int .i64 flex]) (v:=.agg #[v,.int .i64 flex]) (.t l0) (.t (by simp)) (by simp [Value.cells]) T.vM.size hg0 rfl hone (wpList_nil (.ret ⟨h.defers,⟨w.heap.size,0,none⟩,.agg [v,.int .i64 flex].toArray,h.get 0 _ l0,?_,v,rfl,?_,?_⟩))
 ·have hr:=setRow_heap _ _ _ ([v,.int .i64 flex]:List Value).toArray _ _ hg0
  have hcell:∀ j x,([v,.int .i64 flex]:List Value)[j]?=some x->(w2.setRow w.heap.size ([v,.int .i64 flex]:List Value).toArray).cell? ((⟨w.heap.size,0,none⟩:Addr).add j)=some x:=fun j x hj=>by
   rw [Addr.add_lit]
   simp only [World.cell?,hr,Option.isSome_none,Bool.false_eq_true,if_false,Nat.zero_add,List.getElem?_toArray,hj]
  have hll:=run_loadCells_list (P:=P) (w2.setRow w.heap.size ([v,.int .i64 flex]:List Value).toArray) ⟨w.heap.size,0,none⟩ [v,.int .i64 flex] hcell
  have h2:([v,Value.int .i64 flex]:List Value).length=2:=rfl
  rw [h2] at hll
  simp [loadVar,T.vM.agg,T.vM.size,hll]
 ·have himp:∀ b o cs,cs.length=8->qf_ w2 b o cs->qf_ (w2.setRow w.heap.size ([v,.int .i64 flex]:List Value).toArray) b o cs:=fun b o cs h8 hcs j x hj=>by
   by_cases hbg:b=w.heap.size
   ·exfalso
    subst hbg
    have h7:=hcs 7 (cs[7]'(by omega)) (List.getElem?_eq_getElem (by omega))
    have hsz:(Value.agg #[qs_,.int .i64 0]).cells.size=2:=rfl
    simp only [World.cell?,hg0,Option.isSome_none,Bool.false_eq_true,if_false] at h7
    rw [Array.getElem?_eq_none (by rw [hsz];omega)] at h7
    cases h7
   ·have hlt:=lt_of_cell (hcs j x hj)
    exact (qc_.setRow (fun i=>i=w.heap.size) w2 _ _ rfl).cell hbg (hcs j x hj)
  rcases hv with hv | ⟨b,o,c,e1,e2,e3⟩
  ·exact .inl hv
  ·exact .inr ⟨b,o,c,e1,e2,e3.imp himp sf b o⟩
 ·exact (((hk0.trans hk).mono (Y:=fun i=>i=w.heap.size) fun _ _ h=>h.elim).trans (qc_.setRow _ _ _ _ rfl)).mono fun i hi hX=>by omega
def sFx (flex ver:Int):Bool:=decide (0<=flex) && decide (flex<=ver)
theorem wr_calls (T:RefT P S) (hfn:FnIs P S.fWrite 21 [6] (csWr S)) (hPE:Ent P S.fPart) {sf:SFs} (hP:PartC P S sf) {flex ver:Int} {k:Nat} {cs:List Value} {t:Tr} {fv:Value} (W:World) (hfs:FsRp W sf fv) (ht:TrRp W k cs t) (hlim:(jd_ ver (sFx flex ver) sf t).length<=LIM) :
  Calls P S.fWrite [.agg [fv,.int .i64 flex].toArray,.int .i64 ver,.agg cs.toArray].toArray W (q6_ S.tU8 (jd_ ver (sFx flex ver) sf t) W):=by
 have h5:=ht.len
 refine z0_ T.mixed hfn (by simp) _ (by simp) fun a h=>?_
 unfold csWr
 refine qt_ (nrg (st_box h (cs:=[fv,.int .i64 flex]) (.t rfl) (by omega) fun a h=>?_))
 have hk1:qc_ (fun _=>False) W (W.alloc (.cells [fv,.int .i64 flex].toArray S.tMs (0,0))):=qc_.alloc _ _ _
 have hc1:=jn_ W [fv,.int .i64 flex] S.tMs
 generalize W.alloc (.cells [fv,.int .i64 flex].toArray S.tMs (0,0))=w1 at hk1 hc1 ⊢
 refine st_box h (cs:=cs) (.t rfl) (by omega) fun a h=>qd_ h .c (by omega) fun a h=>wpList_nil ?_
 have hk2:qc_ (fun _=>False) w1 (w1.alloc (.cells cs.toArray S.tT (0,0))):=qc_.alloc _ _ _
 have hc2:=jn_ w1 cs S.tT
 generalize w1.alloc (.cells cs.toArray S.tT (0,0))=w2 at hk2 hc2 ⊢
 have hc1:=qf_.kn hk2 hc1
 have hk:=hk1.trans hk2
 have hf:=Fa0.of hk
 refine qt_ (nrg (q1_ h (.t rfl) T.m0 (by omega) fun a h=>qu_ h (.t rfl) T.m0.var (hc1.at (j:=0) rfl) (by omega) fun a h=>qe_ h (.t rfl) (by omega) fun a h=>q1_ h (.t rfl) T.m1 (by omega) fun a h=>qu_ h (.t rfl) T.m1.var (hc1.at (j:=1) rfl) (by omega) fun a h=>q2_ h rfl (.t rfl) .i (by omega) fun a h=>qe_ h (.t rfl) (by omega) fun a h=>?_))
 have rest:∀ (a:Act) (b:Bool) (R:Exit->Act->World->Prop) (ops:Array Oper),St 21 a [(8,fv),(9,.int .i64 ver),(18,.bool b),(5,pt w1.heap.size 0)]->b=sFx flex ver->(∀ a' w',(a'.defers=[]/\q6_ S.tU8 (jd_ ver (sFx flex ver) sf t) W (.returned (js_ [6] a')) w')->R .normal a' w') ->
   wpList P ops R [mk (some 19) (.load S.tT (tm 5)),cl (some 20) S.fPart [(tm 8),(tm 9),(tm 18),(tm 19)],mk (some 6) (.assign (tm 20))] a w2:=by
  intro a b R ops h hb hR
  refine jh_ h (cs:=cs) (.t rfl) (by rw [h5];exact T.vT) hc2 (by omega) fun a h=>?_
  refine q3_ h hPE (vs:=[fv,.int .i64 ver,.bool b,.agg cs.toArray]) (fun n a h=>by
   simp only [List.map_cons,List.map_nil]
   rw [Hd.t (l:=_) (i:=8) rfl n a h,Hd.t (l:=_) (i:=9) rfl n a h,Hd.t (l:=_) (i:=18) rfl n a h,Hd.t (l:=_) (i:=19) rfl n a h]) (by rw [hb];exact hP w2 ver _ k cs t fv (hfs.far hf) (ht.far hf) hlim) (by omega) fun e w3 hR3=>?_
  obtain ⟨v,rfl,hd,hk3⟩:=hR3
  refine ⟨v,rfl,fun a h=>qd_ h (.t rfl) (by omega) fun a h=>wpList_nil (hR _ _ ?_)⟩
  exact ret1 (RR:=q6_ S.tU8 (jd_ ver (sFx flex ver) sf t) W) h rfl ⟨v,rfl,(Gr.lower hk.size (Gr.refl hd)).dst,hk.trans hk3⟩
 cases hb:qz_ .geq flex 0 with
 | false=>
  rw [hb] at h
  have hn:¬ 0<=flex:=by simpa [qz_] using hb
  refine qy_ h rfl rfl rfl (by omega) (by simp) (by omega) fun a h=>qy_ h rfl rfl rfl (by omega) (by simp) (by omega) fun a h=>qy_ h rfl rfl rfl (by omega) (by simp) (by omega) fun a h=>qy_ h rfl rfl rfl (by omega) (by simp) (by omega) fun a h=>?_
  refine jt_ h (.t rfl) (.t rfl) .c (by omega) fun a h=>rest a false _ _ (h.pick ⟨rfl,rfl,rfl,rfl,trivial⟩) (by simp [sFx,hn]) fun a' w' hh=>.ret hh
 | true=>
  rw [hb] at h
  have hn:0<=flex:=by simpa [qz_] using hb
  refine sg_move h rfl rfl rfl (by omega) (.t rfl) (by omega) fun a h=>sg_fld h rfl rfl rfl (by omega) (.t rfl) T.m1 (by omega) fun a h=>sg_load1 h rfl rfl rfl (by omega) (.t rfl) T.m1.var (hc1.at (j:=1) rfl) (by omega) fun a h=>sg_cmp h rfl rfl rfl (by omega) rfl (.t rfl) (.t rfl) (by omega) fun a h=>?_
  refine jt_ h (.t rfl) (.t rfl) .c (by omega) fun a h=>rest a (qz_ .geq ver flex) _ _ (h.pick ⟨rfl,rfl,rfl,rfl,trivial⟩) (by simp [sFx,hn,qz_]) fun a' w' hh=>.ret hh
theorem leafC_of (T:RefT P S) (vB:jo_ P S.tB false 1) (h1:FnIs P S.fUv 20 [2] (csUvr S)) (h2:FnIs P S.fFix 22 [4] (csFi S)) (h3:FnIs P S.fCnt 28 [8] (csCn S)) (h4:FnIs P S.fWid 11 [2] (csWd S)) (h5:FnIs P S.fWhole 8 [2] (csWh S)) (h6:FnIs P S.fThings 8 [2] (csTh S)) (h7:FnIs P S.fHas 20 [4] (csHs S)) (h8:FnIs P S.fNull 20 [6] (csNu S)) (h9:FnIs P S.fKnown 23 [2] (csKw S)) (ha:FnIsC P S.fAt 16 4 S.tT (csAt S)) (hb:FnIs P S.fUnk 85 [4] (csUn S)):LeafC P S where
 tab:=T
 vB:=vB
 uvE:=h1.ent
 uvC _ w hx:=uv_calls' T h1 hx w
 fixE:=h2.ent
 fixC x _ w hk:=fix_calls T h2 x hk w
 cntE:=h3.ent
 cntC fx null _ _ w hm hk:=cnt_calls T h1.ent (fun _ w hx=>uv_calls' T h1 hx w) h2.ent (fun x _ w hk=>fix_calls T h2 x hk w) h3 fx null hm hk w
 widE:=h4.ent
 widC kind w:=wid_calls T h4 kind w
 whE:=h5.ent
 whC _ _ _ _ hv:=wh_calls T h5 hv
 thE:=h6.ent
 thC _ _ _ _ hv:=th_calls T h6 hv
 hasE:=h7.ent
 hasC kind lo hi nul tag df of sv ver w:=has_calls T h7 kind lo hi nul tag df of sv ver w
 nullE:=h8.ent
 nullC kind lo hi nul tag df of sv ver nm tn x1 x3 x4 w:=null_calls T vB h8 kind lo hi nul tag df of sv ver nm tn x1 x3 x4 w
 knE:=h9.ent
 knC _ _ w ht hf:=kw_calls T h9 ht w hf
 atE:=ha.ent
 atC _ _ _ _ w ht:=at_calls T ha w ht
 unE:=hb.ent
 unC sf fv uv raw w ht hf hr:=un_calls T h9.ent (fun _ _ w ht hf=>kw_calls T h9 ht w hf) hb sf fv uv raw w ht hf hr
end
end Go.Proofs.Ytbgklecbmhaadaa.Kx
