/-
  PLAIN LAWS AND CONTRACTS of messages, part 8 of 15: how readers and writers are printed, what they do, what the reference writes, and that what is written is read as the same. Nothing of a statement stands here.
-/
import Derived.Test.YtlmanancakaapaaGreatDoorK1
import Derived.Test.YtlmanancakaapaaGreatDoorK3
import Derived.Test.YtlmanancakaapaaGreatDoorK4
import Derived.Test.YtlmanancakaapaaGreatDoorK7
import Derived.KernelRfl

namespace Go.Proofs.YtlmanancakaapaaGreatDoor.Kx
open Go
section
variable {P:Program} {g:G} {K:Kn} {T:Nat}
theorem calls1 (hm:P.follows .mixedOrders=true) {f ntmps n0:Nat} {l:List GC} {y:Value} {w:World} {RR:Ending->World->Prop} (hfn:FnIs P f ntmps [2] (gS l n0).1) (hnt:1<=ntmps)
  (h:∀ a,a.get 0=y->a.tmps.size=ntmps->a.defers=[]->LW P l n0 (Rt (fun _ _=>False) (fun a' w'=>a'.defers=[]/\RR (.returned (a'.get 2)) w')) a w):Calls P f #[y] w RR:=by
 refine hfn.calls hm (by simp) ?_
 have:=h { tmps:=#[y]++Array.replicate (ntmps - (#[y]:Array Value).size) undef,defers:=[] } (by rw [ja_ _ _ _ (by simp)];rfl) (jo_ #[y] ntmps hnt) rfl
 exact rt_mono (q2_ this) (fun _ _ h=>h.elim) (fun a w h=>⟨h.1,h.2⟩)
theorem get0 {x n:Nat} {a a':Act} {v:Value} (hp:Pv x 0 0 n a a') (h:a.get 0=v) (hx:0 ≠ x) (hn:0 < n):a'.get 0=v:=(hp.get 0 hx (.inr ⟨Nat.le_refl _,hn⟩)).trans h
theorem rI_range {r:RS} {k:Nat} (hk:k=2 \/ k=4):-2147483648<=(rI k r).1/\(rI k r).1 < 2147483648:=by
 by_cases hlt:r.src.length < k
 ·rw [rI_short hlt]
  rcases hk with rfl | rfl <;> simp [sgn]
 ·have h:=unbe_take_lt (show k<=r.src.length by omega)
  rw [rI_long (show k<=r.src.length by omega)]
  rcases hk with rfl | rfl
  ·simp only [sgn];split <;> rename_i h2 <;> simp at h h2 ⊢ <;> omega
  ·simp only [sgn];split <;> rename_i h2 <;> simp at h h2 ⊢ <;> omega
theorem rdOk_str (kt:KT P g K) (ks:KSub P g K T) (h16k:za_ (g.rd .i16)=true) (hSk:za_ g.span=true) {f ntmps:Nat} (hfn:FnIs P f ntmps [2] (cStr g K)) (hnt:11<=ntmps):RdOk P T .str f:=by
 refine ⟨hfn.ent,fun w S R r hR hRS=>calls1 kt.mixed hfn (by omega) fun a h0 hs hd=>?_⟩
 refine qc_ (xa_ (x:=2) (m:=0) (k0:=0) (.inl rfl) (by omega) fun a1 hp1 _=>?_)
 have hs1:=hp1.size
 rw [show (ji_ 2 (.string ⟨#[]⟩) 4).2=4 from rfl]
 refine qc_ (k_num (r':=(rI 2 r).2) (ks.e16 h16k) (ks.c16 h16k w S R r hR hRS) (get0 hp1 h0 (by omega) (by omega)) (by omega) (by omega) fun a2 w2 hp2 hg2 hrd2 hk2=>?_)
 have hs2:=hp2.size
 rw [show (kNum (g.rd .i16) 4).2=6 from rfl]
 refine qc_ (qj_ (wl_spanC ks hSk (.inl rfl) kt.dI16 kt.dInt (rI_range (.inl rfl)) (get0 hp2 (get0 hp1 h0 (by omega) (by omega)) (by omega) (by omega)) hg2 hrd2 hRS (by omega) (by omega) fun a3 w3 v hp3 hg3 hrd3 hk3 hv3=>?_))
 have hs3:=hp3.size
 refine wl_bytesStr kt ks (by rw [qb_];exact hg3) hv3 (qg_ (wpList_nil (qc_ (.ret ⟨?_,?_⟩))))
 ·simp only [qf_];rw [hp3.defers,hp2.defers,hp1.defers];exact hd
 ·rw [gpe (by simp only [qa_];omega),qb_,gpe (by omega)]
  have hlen:=span_len (rI 2 r).1 hrd2
  exact ⟨_,rfl,hrd3,hk2.trans hk3,fun X _ _=>⟨_,rfl,rfl,hlen⟩⟩
theorem k_numU (_kt:KT P g K) (ks:KSub P g K T) (hUk:za_ g.uv=true) {w:World} {S R n:Nat} {r:RS} {a:Act} {KK:Act->World->Prop} {Q:Exit->Act->World->Prop} {A B:Nat} {k:IntKind} (hR:RdS w T S R r) (hRS:S ≠ R) (hA:P.underlying A=some (.int .u32)) (hB:P.underlying B=some (.int k)) (h0:a.get 0=pt R 0) (hn:n + 4<=a.tmps.size) (h3n:3 < n)
  (h:∀ a' w',Pv 3 0 0 n a a'->a'.get 3=.int k (k.wrap (k.wrap ((rUv r).1:Int) - 1))->RdS w' T S R (rUv r).2->Keeps (·=R) w w'->KK a' w'):NWP P (kNumU g A B k n).1 (Exit.then KK Q) a w:=by
 refine qj_ (qd_ ?_)
 rw [qb_,h0]
 refine qv_ (vs:=#[pt R 0]) (ks.eU hUk) (by simp [qb_,gpe (show n < a.tmps.size by omega)]) (ks.cU hUk w S R r hR hRS) fun e w' hR2=>⟨_,hR2.1,?_⟩
 refine qw_ (k:=.u32) (k':=k) (by rw [qb_,gpe (by simp only [qa_];omega)]) hA hB ?_
 refine zk_ (k:=k) (m:=k.wrap ((rUv r).1:Int)) (n:=1) (v:=.int k (k.wrap (k.wrap ((rUv r).1:Int) - 1))) (by rw [qb_,gpe (by simp only [qa_];omega)]) rfl (by simp) (by simp [binOp,Op.intArith]) (qg_ (wpList_nil ?_))
 rw [qb_,gpe (by simp only [qa_];omega)]
 exact h _ w' ((((((Pv.refl _ _ _ _ _).put _ (by omega)).put _ (by omega)).put _ (by omega)).put _ (by omega)).put _ (by omega)) (gpe (by simp only [qa_];omega)) hR2.2.1 hR2.2.2
theorem uv_i64 (r:RS):IntKind.i64.wrap (IntKind.i64.wrap ((rUv r).1:Int) - 1)=((rUv r).1:Int) - 1:=by
 have h:=rUv_lt r
 simp [IntKind.wrap,IntKind.bits,IntKind.signed]
 omega
theorem uv_i32 (r:RS):IntKind.i32.wrap (IntKind.i32.wrap ((rUv r).1:Int) - 1)=j1_ (j1_ (rUv r).1 - 1):=by
 have hw:∀ x:Int,IntKind.i32.wrap x=j1_ x:=by
  intro x
  simp [IntKind.wrap,IntKind.bits,IntKind.signed,j1_]
  split <;> omega
 rw [hw,hw]
theorem k_neg {w:World} {n TT:Nat} {k:IntKind} {x:Int} {z:Value} {a:Act} {KK E:Act->World->Prop} (h3:a.get 3=.int k x) (hn:n + 2<=a.tmps.size) (h3n:3 < n)
  (hyes:x < 0->∀ a',a'.defers=a.defers->a'.get 2=z->E a' w) (hno:¬ x < 0->∀ a',Pv n 0 0 n a a'->KK a' w):NWP P (kNeg TT k z n).1 (Rt KK E) a w:=by
 have key:∀ (b:Bool) (K':Act->World->Prop) (Q':Exit->Act->World->Prop),b=decide (x < 0)->(∀ a',a'.eval (tm (n + 1))=.bool b->Pv n 0 0 n a a'->K' a' w) ->
   wpList P [mk (some n) (.move (tm 3)),mk (some (n + 1)) (.binOp .lss TT (tm n) (ki k 0) 0)].toArray (Exit.then K' Q') [mk (some n) (.move (tm 3)),mk (some (n + 1)) (.binOp .lss TT (tm n) (ki k 0) 0)] a w:=by
  intro b K' Q' hb hK
  refine qd_ ?_
  rw [qb_,h3]
  refine q9_ (b:=b) (p:=x) (q:=0) (k:=k) (by rw [qb_,gpe (by omega)]) rfl (.inr (.inr (.inl ⟨rfl,hb⟩))) (wpList_nil (hK _ ?_ (((Pv.refl _ _ _ _ _).put _ (by omega)).put _ (by omega))))
  rw [qb_,gpe (by simp only [qa_];omega)]
 by_cases hx:x < 0
 ·refine z3_ (key true _ _ (by simp [hx]) fun a' he hp=>⟨he,?_⟩)
  have hs:=hp.size
  exact q2_ (qc_ (xa_ (x:=2) (m:=0) (k0:=0) (.inl rfl) (by omega) fun a2 hp2 hg2=>qc_ (.ret (hyes hx a2 (hp2.defers.trans hp.defers) hg2))))
 ·exact z2_ (key false _ _ (by simp;omega) fun a' he hp=>⟨he,.skip (hno hx a' hp)⟩)
theorem k_eq1 (kt:KT P g K) {w:World} {n TT:Nat} {k:IntKind} {x:Int} {a:Act} {KK E:Act->World->Prop} (h3:a.get 3=.int k x) (hn:n + 3<=a.tmps.size) (h3n:3 < n)
  (hyes:x=-1->∀ a',a'.defers=a.defers->a'.get 2=.slice (some ⟨w.heap.size,0,none⟩) 0 0->E a' (w.alloc (.cells #[] K.tU8 (0,0)))) (hno:¬ x=-1->∀ a',Pv n 0 0 n a a'->KK a' w):NWP P (kEq1 K TT k n).1 (Rt KK E) a w:=by
 have key:∀ (b:Bool) (K':Act->World->Prop) (Q':Exit->Act->World->Prop),b=decide (x=-1)->(∀ a',a'.eval (tm (n + 1))=.bool b->Pv n 0 0 n a a'->K' a' w) ->
   wpList P [mk (some n) (.move (tm 3)),mk (some (n + 1)) (.binOp .eql TT (tm n) (ki k (-1)) 0)].toArray (Exit.then K' Q') [mk (some n) (.move (tm 3)),mk (some (n + 1)) (.binOp .eql TT (tm n) (ki k (-1)) 0)] a w:=by
  intro b K' Q' hb hK
  refine qd_ ?_
  rw [qb_,h3]
  refine q9_ (b:=b) (p:=x) (q:=-1) (k:=k) (by rw [qb_,gpe (by omega)]) rfl (.inr (.inr (.inr (.inr (.inl ⟨rfl,hb⟩))))) (wpList_nil (hK _ ?_ (((Pv.refl _ _ _ _ _).put _ (by omega)).put _ (by omega))))
  rw [qb_,gpe (by simp only [qa_];omega)]
 by_cases hx:x=-1
 ·refine z3_ (key true _ _ (by simp [hx]) fun a' he hp=>⟨he,?_⟩)
  have hs:=hp.size
  refine q2_ (qc_ (qj_ (wl_buildSlice0 kt.sl kt.u8.size (qg_ (wpList_nil (qc_ (.ret (hyes hx _ ?_ ?_))))))))
  ·simp only [qf_];exact hp.defers
  ·rw [gpe (by simp only [qa_];omega),qb_,gpe (by omega)]
 ·exact z2_ (key false _ _ (by simp [hx]) fun a' he hp=>⟨he,.skip (hno hx a' hp)⟩)
theorem rdOk_cstr (kt:KT P g K) (ks:KSub P g K T) (hUk:za_ g.uv=true) (hSk:za_ g.span=true) {f ntmps:Nat} (hfn:FnIs P f ntmps [2] (cCStr g K)) (hnt:12<=ntmps):RdOk P T .cstr f:=by
 refine ⟨hfn.ent,fun w S R r hR hRS=>calls1 kt.mixed hfn (by omega) fun a h0 hs hd=>?_⟩
 refine qc_ (xa_ (x:=2) (m:=0) (k0:=0) (.inl rfl) (by omega) fun a1 hp1 _=>?_)
 have hs1:=hp1.size
 rw [show (ji_ 2 (.string ⟨#[]⟩) 4).2=4 from rfl]
 refine qc_ (k_numU kt ks hUk hR hRS kt.dU32 kt.dInt (get0 hp1 h0 (by omega) (by omega)) (by omega) (by omega) fun a2 w2 hp2 hg2 hrd2 hk2=>?_)
 rw [uv_i64] at hg2
 have hs2:=hp2.size
 rw [show (kNumU g K.tU32 K.tInt .i64 4).2=8 from rfl]
 refine qc_ (qj_ (wl_spanD ks hSk (get0 hp2 (get0 hp1 h0 (by omega) (by omega)) (by omega) (by omega)) hg2 hrd2 hRS (by omega) (by omega) fun a3 w3 v hp3 hg3 hrd3 hk3 hv3=>?_))
 have hs3:=hp3.size
 refine wl_bytesStr kt ks (by rw [qb_];exact hg3) hv3 (qg_ (wpList_nil (qc_ (.ret ⟨?_,?_⟩))))
 ·simp only [qf_];rw [hp3.defers,hp2.defers,hp1.defers];exact hd
 ·rw [gpe (by simp only [qa_];omega),qb_,gpe (by omega)]
  have hlen:=span_len ((rUv r).1 - 1) hrd2
  exact ⟨_,rfl,hrd3,hk2.trans hk3,fun X _ _=>⟨_,rfl,rfl,hlen⟩⟩
theorem k_boxStr (kt:KT P g K) (ks:KSub P g K T) {w:World} {S m:Nat} {v:Value} {r':RS} {a:Act} {KK:Act->World->Prop} {Q:Exit->Act->World->Prop} {ops:Array Oper} {y:Nat} (hy:a.get y=v) (hv:jz_ w S v r') (hm:m < a.tmps.size) (hm4:4 < m)
  (h:∀ a' w',a'.defers=a.defers->a'.tmps.size=a.tmps.size->a'.get 4=pt w.heap.size 0->Keeps (fun _=>False) w w'->w'.cell? ⟨w.heap.size,0,none⟩=some (.string ⟨r'.src.toArray⟩)->KK a' w') :
  wpList P ops (Exit.then KK Q) [mk (some m) (.convert K.tSl K.tStr (tm y)),mk (some 4) (.alloc K.tStr),mk none (.store K.tStr (tm 4) (tm m))] a w:=by
 refine wl_bytesStr kt ks (by rw [qb_];exact hy) hv ?_
 refine zp_ (ks.zStr w) ?_
 have hnew:(w.alloc (.cells (Value.string ⟨#[]⟩).cells K.tStr (0,0))).heap[w.heap.size]?=some (.cells #[.string ⟨#[]⟩] K.tStr (0,0)):=heap_alloc_new _ _
 refine q8_ (g:=w.heap.size) (o:=0) (cur:=#[.string ⟨#[]⟩]) (t:=K.tStr) (v:=.string ⟨r'.src.toArray⟩) (vs:=[.string ⟨r'.src.toArray⟩]) (by rw [qb_,gpe (by simp only [qa_];omega)]) (by rw [qb_,gpo (by omega),gpe (by omega)]) rfl (ks.vStr.size _) hnew (by simp) (fun u hu=>by simp at hu;rw [hu];rfl) (wpList_nil ?_)
 refine h _ _ (by simp only [qf_]) (by simp only [qa_]) (gpe (by simp only [qa_];omega)) (zv_ _ _ _ _) ?_
 rw [cell_setRow_same _ _ _ _ _ _ _ hnew]
 have:=jw_ (cur:=#[Value.string ⟨#[]⟩]) (o:=0) (vs:=[Value.string ⟨r'.src.toArray⟩]) (by simp) 0 (by simp)
 simpa using this
theorem rdOk_nstr (kt:KT P g K) (ks:KSub P g K T) (h16k:za_ (g.rd .i16)=true) (hSk:za_ g.span=true) {f ntmps:Nat} (hfn:FnIs P f ntmps [2] (cNStr g K)) (hnt:14<=ntmps):RdOk P T .nstr f:=by
 refine ⟨hfn.ent,fun w S R r hR hRS=>calls1 kt.mixed hfn (by omega) fun a h0 hs hd=>?_⟩
 refine qc_ (xa_ (x:=2) (m:=0) (k0:=0) (.inl rfl) (by omega) fun a1 hp1 _=>?_)
 have hs1:=hp1.size
 rw [show (ji_ 2 (.pointer none) 5).2=5 from rfl]
 refine qc_ (k_num (r':=(rI 2 r).2) (ks.e16 h16k) (ks.c16 h16k w S R r hR hRS) (get0 hp1 h0 (by omega) (by omega)) (by omega) (by omega) fun a2 w2 hp2 hg2 hrd2 hk2=>?_)
 have hs2:=hp2.size
 rw [show (kNum (g.rd .i16) 5).2=7 from rfl]
 have hd2:a2.defers=[]:=by rw [hp2.defers,hp1.defers];exact hd
 refine qc_ ?_
 rw [qr_]
 refine k_neg hg2 (by omega) (by omega) (fun hx a' hd' hg'=>⟨hd'.trans hd2,?_⟩) (fun hx a3 hp3=>?_)
 ·rw [hg']
  have hrun:PF.run .nstr r=(.nul,(rI 2 r).2):=by simp [PF.run,hx]
  rw [hrun]
  exact ⟨_,rfl,hrd2,hk2,fun X _ _=>.inl ⟨rfl,rfl⟩⟩
 ·have hs3:=hp3.size
  have hrun:PF.run .nstr r=rText (rI 2 r).1 (rI 2 r).2:=by simp [PF.run,hx]
  rw [hrun]
  rw [show (kNeg K.tI16 .i16 (.pointer none) 7).2=9 from rfl]
  have h03:a3.get 0=pt R 0:=get0 hp3 (get0 hp2 (get0 hp1 h0 (by omega) (by omega)) (by omega) (by omega)) (by omega) (by omega)
  refine qc_ (qj_ (wl_spanC ks hSk (.inl rfl) kt.dI16 kt.dInt (rI_range (.inl rfl)) h03 ((hp3.get 3 (by omega) (.inr ⟨by omega,by omega⟩)).trans hg2) hrd2 hRS (by omega) (by omega) fun a4 w4 v hp4 hg4 hrd4 hk4 hv4=>?_))
  have hs4:=hp4.size
  refine k_boxStr kt ks hg4 hv4 (by omega) (by omega) fun a5 w5 hd5 hs5 hg5 hk5 hc5=>?_
  have hlen:=span_len (rI 2 r).1 hrd2
  have hsz:w.heap.size<=w4.heap.size:=Nat.le_trans hk2.size hk4.size
  refine qc_ (qj_ (qg_ (wpList_nil (qc_ (.ret ⟨?_,?_⟩)))))
  ·simp only [qf_];rw [hd5,hp4.defers,hp3.defers];exact hd2
  ·rw [gpe (by omega),qb_,hg5]
   refine ⟨_,rfl,hrd4.keep hk5 id id,(hk2.trans hk4).trans (hk5.mono fun _ _ h=>h.elim),fun X hX hS=>.inr ⟨_,w4.heap.size,0,rfl,fun h=>?_,hc5,rfl,hlen⟩⟩
   have:=hX _ h
   omega
theorem rdOk_cnstr (kt:KT P g K) (ks:KSub P g K T) (hUk:za_ g.uv=true) (hSk:za_ g.span=true) {f ntmps:Nat} (hfn:FnIs P f ntmps [2] (cCNStr g K)) (hnt:15<=ntmps):RdOk P T .cnstr f:=by
 refine ⟨hfn.ent,fun w S R r hR hRS=>calls1 kt.mixed hfn (by omega) fun a h0 hs hd=>?_⟩
 refine qc_ (xa_ (x:=2) (m:=0) (k0:=0) (.inl rfl) (by omega) fun a1 hp1 _=>?_)
 have hs1:=hp1.size
 rw [show (ji_ 2 (.pointer none) 5).2=5 from rfl]
 refine qc_ (k_numU kt ks hUk hR hRS kt.dU32 kt.dInt (get0 hp1 h0 (by omega) (by omega)) (by omega) (by omega) fun a2 w2 hp2 hg2 hrd2 hk2=>?_)
 rw [uv_i64] at hg2
 have hs2:=hp2.size
 rw [show (kNumU g K.tU32 K.tInt .i64 5).2=9 from rfl]
 have hd2:a2.defers=[]:=by rw [hp2.defers,hp1.defers];exact hd
 refine qc_ ?_
 rw [qr_]
 refine k_neg hg2 (by omega) (by omega) (fun hx a' hd' hg'=>⟨hd'.trans hd2,?_⟩) (fun hx a3 hp3=>?_)
 ·rw [hg']
  have hrun:PF.run .cnstr r=(.nul,(rUv r).2):=by simp only [PF.run,hx,if_true]
  rw [hrun]
  exact ⟨_,rfl,hrd2,hk2,fun X _ _=>.inl ⟨rfl,rfl⟩⟩
 ·have hs3:=hp3.size
  have hrun:PF.run .cnstr r=rText ((rUv r).1 - 1:Int) (rUv r).2:=by simp only [PF.run,hx,if_false]
  rw [hrun]
  rw [show (kNeg K.tInt .i64 (.pointer none) 9).2=11 from rfl]
  have h03:a3.get 0=pt R 0:=get0 hp3 (get0 hp2 (get0 hp1 h0 (by omega) (by omega)) (by omega) (by omega)) (by omega) (by omega)
  refine qc_ (qj_ (wl_spanD ks hSk h03 ((hp3.get 3 (by omega) (.inr ⟨by omega,by omega⟩)).trans hg2) hrd2 hRS (by omega) (by omega) fun a4 w4 v hp4 hg4 hrd4 hk4 hv4=>?_))
  have hs4:=hp4.size
  refine k_boxStr kt ks hg4 hv4 (by omega) (by omega) fun a5 w5 hd5 hs5 hg5 hk5 hc5=>?_
  have hlen:=span_len ((rUv r).1 - 1) hrd2
  have hsz:w.heap.size<=w4.heap.size:=Nat.le_trans hk2.size hk4.size
  refine qc_ (qj_ (qg_ (wpList_nil (qc_ (.ret ⟨?_,?_⟩)))))
  ·simp only [qf_];rw [hd5,hp4.defers,hp3.defers];exact hd2
  ·rw [gpe (by omega),qb_,hg5]
   refine ⟨_,rfl,hrd4.keep hk5 id id,(hk2.trans hk4).trans (hk5.mono fun _ _ h=>h.elim),fun X hX hS=>.inr ⟨_,w4.heap.size,0,rfl,fun h=>?_,hc5,rfl,hlen⟩⟩
   have:=hX _ h
   omega
end
def kLenCk (K:Kn):GC:=gIf 7 8 (fun n=>kSrc K 0 n++[bi (some (n + 4)) .len [tm (n + 3)] [K.tSl] K.tInt,mk (some (n + 5)) (.move (tm 3)),mk (some (n + 6)) (.convert K.tI32 K.tInt (tm (n + 5))),mk (some (n + 7)) (.binOp .lss K.tInt (tm (n + 4)) (tm (n + 6)) 0)]) (kFail K (.int .i32 0)) jk_
def cLen (g:G) (K:Kn):Code:=(gS [ji_ 2 (.int .i32 0),kNum (g.rd .i32),kLenCk K,jf_ 3 2,q3_ .ret] 4).1
def cCLen (g:G) (K:Kn):Code:=(gS [ji_ 2 (.int .i32 0),kNumU g K.tU32 K.tI32 .i32,kLenCk K,jf_ 3 2,q3_ .ret] 4).1
section
variable {P:Program} {g:G} {K:Kn} {T:Nat}
theorem rdOk_bytes (kt:KT P g K) (ks:KSub P g K T) (h32k:za_ (g.rd .i32)=true) (hSk:za_ g.span=true) {f ntmps:Nat} (hfn:FnIs P f ntmps [2] (cBytes g K)) (hnt:13<=ntmps):RdOk P T .bytes f:=by
 refine ⟨hfn.ent,fun w S R r hR hRS=>calls1 kt.mixed hfn (by omega) fun a h0 hs hd=>?_⟩
 refine qc_ (xa_ (x:=2) (m:=0) (k0:=0) (.inl rfl) (by omega) fun a1 hp1 _=>?_)
 have hs1:=hp1.size
 rw [show (ji_ 2 (.slice none 0 0) 4).2=4 from rfl]
 refine qc_ (k_num (r':=(rI 4 r).2) (ks.e32 h32k) (ks.c32 h32k w S R r hR hRS) (get0 hp1 h0 (by omega) (by omega)) (by omega) (by omega) fun a2 w2 hp2 hg2 hrd2 hk2=>?_)
 have hs2:=hp2.size
 rw [show (kNum (g.rd .i32) 4).2=6 from rfl]
 have hd2:a2.defers=[]:=by rw [hp2.defers,hp1.defers];exact hd
 refine qc_ ?_
 rw [qr_]
 refine k_eq1 kt hg2 (by omega) (by omega) (fun hx a' hd' hg'=>⟨hd'.trans hd2,?_⟩) (fun hx a3 hp3=>?_)
 ·rw [hg']
  have hrun:PF.run .bytes r=(.s [],(rI 4 r).2):=by simp [PF.run,hx]
  rw [hrun]
  have hkA:Keeps (fun _=>False) w2 (w2.alloc (.cells #[] K.tU8 (0,0))):=Keeps.alloc _ _ _
  have hsz:=hk2.size
  refine ⟨_,rfl,hrd2.keep hkA id id,hk2.trans (hkA.mono fun _ _ h=>h.elim),fun X hX hS=>.inr ⟨[],w2.heap.size,0,0,rfl,fun h=>?_,by simp,Nat.le_refl _,by simp,fun i x hi=>by simp at hi,rfl⟩⟩
  have:=hX _ h
  omega
 ·have hs3:=hp3.size
  have hrun:PF.run .bytes r=qo_ (rI 4 r).1 (rI 4 r).2:=by simp [PF.run,hx]
  rw [hrun]
  rw [show (kEq1 K K.tI32 .i32 6).2=9 from rfl]
  have h03:a3.get 0=pt R 0:=get0 hp3 (get0 hp2 (get0 hp1 h0 (by omega) (by omega)) (by omega) (by omega)) (by omega) (by omega)
  refine qc_ (qj_ (wl_spanC ks hSk (.inr rfl) kt.dI32 kt.dInt (rI_range (.inr rfl)) h03 ((hp3.get 3 (by omega) (.inr ⟨by omega,by omega⟩)).trans hg2) hrd2 hRS (by omega) (by omega) fun a4 w4 v hp4 hg4 hrd4 hk4 hv4=>qg_ (wpList_nil (qc_ (.ret ⟨?_,?_⟩)))))
  ·simp only [qf_];rw [hp4.defers,hp3.defers];exact hd2
  ·rw [qb_,hg4,gpe (by have:=hp4.size;omega)]
   exact ⟨v,rfl,hrd4,hk2.trans hk4,fun X _ hS=>bytes_of_src hS hv4⟩
theorem rdOk_cbytes (kt:KT P g K) (ks:KSub P g K T) (hUk:za_ g.uv=true) (hSk:za_ g.span=true) {f ntmps:Nat} (hfn:FnIs P f ntmps [2] (cCBytes g K)) (hnt:14<=ntmps):RdOk P T .cbytes f:=by
 refine ⟨hfn.ent,fun w S R r hR hRS=>calls1 kt.mixed hfn (by omega) fun a h0 hs hd=>?_⟩
 refine qc_ (xa_ (x:=2) (m:=0) (k0:=0) (.inl rfl) (by omega) fun a1 hp1 _=>?_)
 have hs1:=hp1.size
 rw [show (ji_ 2 (.slice none 0 0) 4).2=4 from rfl]
 refine qc_ (k_numU kt ks hUk hR hRS kt.dU32 kt.dInt (get0 hp1 h0 (by omega) (by omega)) (by omega) (by omega) fun a2 w2 hp2 hg2 hrd2 hk2=>?_)
 rw [uv_i64] at hg2
 have hs2:=hp2.size
 rw [show (kNumU g K.tU32 K.tInt .i64 4).2=8 from rfl]
 have hd2:a2.defers=[]:=by rw [hp2.defers,hp1.defers];exact hd
 refine qc_ ?_
 rw [qr_]
 refine k_eq1 kt hg2 (by omega) (by omega) (fun hx a' hd' hg'=>⟨hd'.trans hd2,?_⟩) (fun hx a3 hp3=>?_)
 ·rw [hg']
  have hrun:PF.run .cbytes r=(.s [],(rUv r).2):=by simp only [PF.run,hx,if_true]
  rw [hrun]
  have hkA:Keeps (fun _=>False) w2 (w2.alloc (.cells #[] K.tU8 (0,0))):=Keeps.alloc _ _ _
  have hsz:=hk2.size
  refine ⟨_,rfl,hrd2.keep hkA id id,hk2.trans (hkA.mono fun _ _ h=>h.elim),fun X hX hS=>.inr ⟨[],w2.heap.size,0,0,rfl,fun h=>?_,by simp,Nat.le_refl _,by simp,fun i x hi=>by simp at hi,rfl⟩⟩
  have:=hX _ h
  omega
 ·have hs3:=hp3.size
  have hrun:PF.run .cbytes r=qo_ ((rUv r).1 - 1:Int) (rUv r).2:=by simp only [PF.run,hx,if_false]
  rw [hrun]
  rw [show (kEq1 K K.tInt .i64 8).2=11 from rfl]
  have h03:a3.get 0=pt R 0:=get0 hp3 (get0 hp2 (get0 hp1 h0 (by omega) (by omega)) (by omega) (by omega)) (by omega) (by omega)
  refine qc_ (qj_ (wl_spanD ks hSk h03 ((hp3.get 3 (by omega) (.inr ⟨by omega,by omega⟩)).trans hg2) hrd2 hRS (by omega) (by omega) fun a4 w4 v hp4 hg4 hrd4 hk4 hv4=>qg_ (wpList_nil (qc_ (.ret ⟨?_,?_⟩)))))
  ·simp only [qf_];rw [hp4.defers,hp3.defers];exact hd2
  ·rw [qb_,hg4,gpe (by have:=hp4.size;omega)]
   exact ⟨v,rfl,hrd4,hk2.trans hk4,fun X _ hS=>bytes_of_src hS hv4⟩
theorem rdOk_nbytes (kt:KT P g K) (ks:KSub P g K T) (h32k:za_ (g.rd .i32)=true) (hSk:za_ g.span=true) {f ntmps:Nat} (hfn:FnIs P f ntmps [2] (cNBytes g K)) (hnt:14<=ntmps):RdOk P T .nbytes f:=by
 refine ⟨hfn.ent,fun w S R r hR hRS=>calls1 kt.mixed hfn (by omega) fun a h0 hs hd=>?_⟩
 refine qc_ (xa_ (x:=2) (m:=0) (k0:=0) (.inl rfl) (by omega) fun a1 hp1 _=>?_)
 have hs1:=hp1.size
 rw [show (ji_ 2 (.slice none 0 0) 5).2=5 from rfl]
 refine qc_ (k_num (r':=(rI 4 r).2) (ks.e32 h32k) (ks.c32 h32k w S R r hR hRS) (get0 hp1 h0 (by omega) (by omega)) (by omega) (by omega) fun a2 w2 hp2 hg2 hrd2 hk2=>?_)
 have hs2:=hp2.size
 rw [show (kNum (g.rd .i32) 5).2=7 from rfl]
 have hd2:a2.defers=[]:=by rw [hp2.defers,hp1.defers];exact hd
 refine qc_ ?_
 rw [qr_]
 refine k_neg hg2 (by omega) (by omega) (fun hx a' hd' hg'=>⟨hd'.trans hd2,?_⟩) (fun hx a3 hp3=>?_)
 ·rw [hg']
  have hrun:PF.run .nbytes r=(.nul,(rI 4 r).2):=by simp only [PF.run,hx,if_true]
  rw [hrun]
  exact ⟨_,rfl,hrd2,hk2,fun X _ _=>.inl ⟨rfl,rfl⟩⟩
 ·have hs3:=hp3.size
  have hrun:PF.run .nbytes r=qo_ (rI 4 r).1 (rI 4 r).2:=by simp only [PF.run,hx,if_false]
  rw [hrun]
  rw [show (kNeg K.tI32 .i32 (.slice none 0 0) 7).2=9 from rfl]
  have h03:a3.get 0=pt R 0:=get0 hp3 (get0 hp2 (get0 hp1 h0 (by omega) (by omega)) (by omega) (by omega)) (by omega) (by omega)
  refine qc_ (qj_ (wl_spanC ks hSk (.inr rfl) kt.dI32 kt.dInt (rI_range (.inr rfl)) h03 ((hp3.get 3 (by omega) (.inr ⟨by omega,by omega⟩)).trans hg2) hrd2 hRS (by omega) (by omega) fun a4 w4 v hp4 hg4 hrd4 hk4 hv4=>qg_ (wpList_nil ?_)))
  have hs4:=hp4.size
  refine qc_ (s_move (x:=2) (m:=0) (k0:=0) (.inl rfl) (Nat.le_refl _) (by omega) (by simp only [qa_,qu_];omega) (by simp only [qa_];omega) fun a5 hp5 hg5=>qc_ (.ret ⟨?_,?_⟩))
  ·rw [hp5.defers];simp only [qf_];rw [hp4.defers,hp3.defers];exact hd2
  ·rw [hg5,gpe (by omega),qb_,hg4]
   exact ⟨v,rfl,hrd4,hk2.trans hk4,fun X _ hS=>bytes_of_src hS hv4⟩
theorem k_lenCk (kt:KT P g K) {w:World} {S R n:Nat} {r:RS} {x:Int} {a:Act} {KK E:Act->World->Prop} (h0:a.get 0=pt R 0) (h3:a.get 3=.int .i32 x) (hx:-2147483648<=x/\x < 2147483648) (hR:RdS w T S R r) (hRS:S ≠ R) (hn:n + 14<=a.tmps.size) (h3n:3 < n)
  (hyes:(r.src.length:Int) < x->∀ a' w',a'.defers=a.defers->a'.get 2=.int .i32 0->RdS w' T S R .fail->Keeps (·=R) w w'->E a' w') (hno:¬ (r.src.length:Int) < x->∀ a',Pv n 0 0 n a a'->KK a' w):NWP P (kLenCk K n).1 (Rt KK E) a w:=by
 obtain ⟨v,hv⟩:=hR
 obtain ⟨base,c,hvv,_⟩:=hv.2.len
 have hw:IntKind.i64.wrap x=x:=by simp [IntKind.wrap,IntKind.bits,IntKind.signed];omega
 have key:∀ (b:Bool) (K':Act->World->Prop) (Q':Exit->Act->World->Prop),b=decide ((r.src.length:Int) < x)->(∀ a',a'.eval (tm (n + 7))=.bool b->Pv n 0 0 n a a'->K' a' w) ->
   wpList P (kSrc K 0 n++[bi (some (n + 4)) .len [tm (n + 3)] [K.tSl] K.tInt,mk (some (n + 5)) (.move (tm 3)),mk (some (n + 6)) (.convert K.tI32 K.tInt (tm (n + 5))),mk (some (n + 7)) (.binOp .lss K.tInt (tm (n + 4)) (tm (n + 6)) 0)]).toArray (Exit.then K' Q')
   (kSrc K 0 n++[bi (some (n + 4)) .len [tm (n + 3)] [K.tSl] K.tInt,mk (some (n + 5)) (.move (tm 3)),mk (some (n + 6)) (.convert K.tI32 K.tInt (tm (n + 5))),mk (some (n + 7)) (.binOp .lss K.tInt (tm (n + 4)) (tm (n + 6)) 0)]) a w:=by
  intro b K' Q' hb hK
  refine wl_src kt h0 hv (by omega) fun a2 hp2 hg2=>?_
  have hs2:=hp2.size
  have h32:a2.get 3=.int .i32 x:=(hp2.get 3 (by omega) (.inr ⟨by omega,by omega⟩)).trans h3
  refine wl_len (n:=r.src.length) (c:=c) (base:=base) (by rw [qb_,hg2,hvv]) kt.sl ?_
  refine qd_ ?_
  rw [qb_,gpo (by omega),h32]
  refine qw_ (k:=.i32) (k':=.i64) (by rw [qb_,gpe (by simp only [qa_];omega)]) kt.dI32 kt.dInt ?_
  rw [hw]
  refine q9_ (b:=b) (p:=(r.src.length:Int)) (q:=x) (k:=.i64) (by rw [qb_,gpo (by omega),gpo (by omega),gpe (by omega)]) (by rw [qb_,gpe (by simp only [qa_];omega)]) (.inr (.inr (.inl ⟨rfl,hb⟩))) (wpList_nil (hK _ ?_ ((((hp2.put _ (by omega)).put _ (by omega)).put _ (by omega)).put _ (by omega))))
  rw [qb_,gpe (by simp only [qa_];omega)]
 by_cases hlt:(r.src.length:Int) < x
 ·refine z3_ (key true _ _ (by simp [hlt]) fun a' he hp=>⟨he,?_⟩)
  have hs:=hp.size
  exact k_fail kt ((hp.get 0 (by omega) (.inr ⟨by omega,by omega⟩)).trans h0) hv hRS (by omega) (by omega) fun a3 w3 hd3 hg3 hrd3 hk3=>hyes hlt a3 w3 (hd3.trans hp.defers) hg3 hrd3 hk3
 ·exact z2_ (key false _ _ (by simp [hlt]) fun a' he hp=>⟨he,.skip (hno hlt a' hp)⟩)
theorem len_calls (kt:KT P g K) (ks:KSub P g K T) (h32k:za_ (g.rd .i32)=true) {f ntmps:Nat} (hfn:FnIs P f ntmps [2] (cLen g K)) (hnt:21<=ntmps) {w:World} {S R:Nat} {r:RS} (hR:RdS w T S R r) (hRS:S ≠ R) :
  Calls P f #[pt R 0] w fun e w'=>e=.returned (.int .i32 (j0_ false r).1)/\RdS w' T S R (j0_ false r).2/\Keeps (·=R) w w':=by
 refine calls1 kt.mixed hfn (by omega) fun a h0 hs hd=>?_
 refine qc_ (xa_ (x:=2) (m:=0) (k0:=0) (.inl rfl) (by omega) fun a1 hp1 _=>?_)
 have hs1:=hp1.size
 rw [show (ji_ 2 (.int .i32 0) 4).2=4 from rfl]
 refine qc_ (k_num (r':=(rI 4 r).2) (ks.e32 h32k) (ks.c32 h32k w S R r hR hRS) (get0 hp1 h0 (by omega) (by omega)) (by omega) (by omega) fun a2 w2 hp2 hg2 hrd2 hk2=>?_)
 have hs2:=hp2.size
 rw [show (kNum (g.rd .i32) 4).2=6 from rfl]
 have hd2:a2.defers=[]:=by rw [hp2.defers,hp1.defers];exact hd
 have h02:a2.get 0=pt R 0:=get0 hp2 (get0 hp1 h0 (by omega) (by omega)) (by omega) (by omega)
 refine qc_ ?_
 rw [qr_]
 refine k_lenCk kt h02 hg2 (rI_range (.inr rfl)) hrd2 hRS (by omega) (by omega) (fun hlt a' w' hd' hg' hrd' hk'=>⟨hd'.trans hd2,?_⟩) (fun hlt a3 hp3=>?_)
 ·have hr:j0_ false r=(0,.fail):=by simp only [j0_,Bool.false_eq_true,if_false,hlt,if_true]
  rw [hr,hg']
  exact ⟨rfl,hrd',hk2.trans hk'⟩
 ·have hr:j0_ false r=rI 4 r:=by simp only [j0_,Bool.false_eq_true,if_false,hlt]
  have hs3:=hp3.size
  rw [hr]
  rw [show (kLenCk K 6).2=20 from rfl]
  refine qc_ (s_move (x:=2) (m:=0) (k0:=0) (.inl rfl) (Nat.le_refl _) (by omega) (by omega) (by omega) fun a4 hp4 hg4=>qc_ (.ret ⟨?_,?_⟩))
  ·rw [hp4.defers,hp3.defers];exact hd2
  ·rw [hg4,hp3.get 3 (by omega) (.inr ⟨by omega,by omega⟩),hg2]
   exact ⟨rfl,hrd2,hk2⟩
theorem clen_calls (kt:KT P g K) (ks:KSub P g K T) (hUk:za_ g.uv=true) {f ntmps:Nat} (hfn:FnIs P f ntmps [2] (cCLen g K)) (hnt:23<=ntmps) {w:World} {S R:Nat} {r:RS} (hR:RdS w T S R r) (hRS:S ≠ R) :
  Calls P f #[pt R 0] w fun e w'=>e=.returned (.int .i32 (j0_ true r).1)/\RdS w' T S R (j0_ true r).2/\Keeps (·=R) w w':=by
 refine calls1 kt.mixed hfn (by omega) fun a h0 hs hd=>?_
 refine qc_ (xa_ (x:=2) (m:=0) (k0:=0) (.inl rfl) (by omega) fun a1 hp1 _=>?_)
 have hs1:=hp1.size
 rw [show (ji_ 2 (.int .i32 0) 4).2=4 from rfl]
 refine qc_ (k_numU kt ks hUk hR hRS kt.dU32 kt.dI32 (get0 hp1 h0 (by omega) (by omega)) (by omega) (by omega) fun a2 w2 hp2 hg2 hrd2 hk2=>?_)
 rw [uv_i32] at hg2
 have hs2:=hp2.size
 rw [show (kNumU g K.tU32 K.tI32 .i32 4).2=8 from rfl]
 have hd2:a2.defers=[]:=by rw [hp2.defers,hp1.defers];exact hd
 have h02:a2.get 0=pt R 0:=get0 hp2 (get0 hp1 h0 (by omega) (by omega)) (by omega) (by omega)
 have hrange:-2147483648<=j1_ (j1_ (rUv r).1 - 1)/\j1_ (j1_ (rUv r).1 - 1) < 2147483648:=by simp only [j1_];omega
 refine qc_ ?_
 rw [qr_]
 refine k_lenCk kt h02 hg2 hrange hrd2 hRS (by omega) (by omega) (fun hlt a' w' hd' hg' hrd' hk'=>⟨hd'.trans hd2,?_⟩) (fun hlt a3 hp3=>?_)
 ·have hr:j0_ true r=(0,.fail):=by simp only [j0_,if_true,hlt]
  rw [hr,hg']
  exact ⟨rfl,hrd',hk2.trans hk'⟩
 ·have hr:j0_ true r=(j1_ (j1_ (rUv r).1 - 1),(rUv r).2):=by simp only [j0_,if_true,hlt,if_false]
  have hs3:=hp3.size
  rw [hr]
  rw [show (kLenCk K 8).2=22 from rfl]
  refine qc_ (s_move (x:=2) (m:=0) (k0:=0) (.inl rfl) (Nat.le_refl _) (by omega) (by omega) (by omega) fun a4 hp4 hg4=>qc_ (.ret ⟨?_,?_⟩))
  ·rw [hp4.defers,hp3.defers];exact hd2
  ·rw [hg4,hp3.get 3 (by omega) (.inr ⟨by omega,by omega⟩),hg2]
   exact ⟨rfl,hrd2,hk2⟩
end
structure KBig (P:Program) (K:Kn):Prop where
 be:jp_ P K.tBE true 0
 d16:P.underlying K.tU16=some (.int .u16)
 d64:za_ K.fU64=true->P.underlying K.tU64=some (.int .u64)
 dI64:za_ K.fU64=true->P.underlying K.tI64=some (.int .i64)
 f16:za_ K.fU16=true->FnIs P K.fU16 18 [4] (gBig K K.tU16 .u16 2)
 f32:za_ K.fU32=true->FnIs P K.fU32 30 [4] (gBig K K.tU32 .u32 4)
 f64:za_ K.fU64=true->FnIs P K.fU64 54 [4] (gBig K K.tU64 .u64 8)
section
variable {P:Program} {g:G} {K:Kn} {T:Nat}
theorem loud16 (K:Kn) (tK:Nat):xd_ (beFree K tK 2++[mk (some 4) (.assign (tm 17))])=List.replicate 10 false++[true]:=by kernel_rfl
theorem loud32 (K:Kn) (tK:Nat):xd_ (beFree K tK 4++[mk (some 4) (.assign (tm 29))])=List.replicate 22 false++[true]:=by kernel_rfl
theorem loud64 (K:Kn) (tK:Nat):xd_ (beFree K tK 8++[mk (some 4) (.assign (tm 53))])=List.replicate 46 false++[true]:=by kernel_rfl
theorem big16 (kt:KT P g K) (kb:KBig P K) (hF:za_ K.fU16=true) {w:World} {S:Nat} {r:RS} {v:Value} (h:jz_ w S v r) (hk:2<=r.src.length):Calls P K.fU16 #[.agg #[],v] w fun e w'=>e=.returned (.int .u16 ((unbe (r.src.take 2):Nat):Int))/\Keeps (fun _=>False) w w':=
 big_calls kt (kb.f16 hF) (by omega) (.inl rfl) kb.d16 (by omega) (by simp [IntKind.bits]) kb.be ⟨_,loud16 K _,rfl,rfl⟩ h hk
theorem big32 (kt:KT P g K) (kb:KBig P K) (hF:za_ K.fU32=true) {w:World} {S:Nat} {r:RS} {v:Value} (h:jz_ w S v r) (hk:4<=r.src.length):Calls P K.fU32 #[.agg #[],v] w fun e w'=>e=.returned (.int .u32 ((unbe (r.src.take 4):Nat):Int))/\Keeps (fun _=>False) w w':=
 big_calls kt (kb.f32 hF) (by omega) (.inr (.inl rfl)) kt.dU32 (by omega) (by simp [IntKind.bits]) kb.be ⟨_,loud32 K _,rfl,rfl⟩ h hk
theorem big64 (kt:KT P g K) (kb:KBig P K) (hF:za_ K.fU64=true) {w:World} {S:Nat} {r:RS} {v:Value} (h:jz_ w S v r) (hk:8<=r.src.length):Calls P K.fU64 #[.agg #[],v] w fun e w'=>e=.returned (.int .u64 ((unbe (r.src.take 8):Nat):Int))/\Keeps (fun _=>False) w w':=
 big_calls kt (kb.f64 hF) (by omega) (.inr (.inr rfl)) (kb.d64 hF) (by omega) (by simp [IntKind.bits]) kb.be ⟨_,loud64 K _,rfl,rfl⟩ h hk
theorem i16_calls (kt:KT P g K) (kb:KBig P K) (hF:za_ K.fU16=true) {f ntmps:Nat} (hfn:FnIs P f ntmps [2] (cI16 K)) (hnt:32<=ntmps) {w:World} {S R:Nat} {r:RS} (hR:RdS w T S R r) (hRS:S ≠ R) :
  Calls P f #[pt R 0] w (FixPost T S R 2 r w (.int .i16 0) (.int .i16 (IntKind.wrap .i16 ((unbe (r.src.take 2):Nat):Int)))):=
 k_skel kt (kr:=7) (rv:=.int .i16 (IntKind.wrap .i16 ((unbe (r.src.take 2):Nat):Int))) hfn rfl (by omega) hR hRS
  (fun hk v a K' Q' hv h0 hs h=>k_big (k:=2) (kind:=.u16) kt kb.be (kb.f16 hF).ent (fun w' hv'=>big16 kt kb hF hv' hk) ⟨.i16,kb.d16,kt.dI16,rfl⟩ hv h0 (by omega) h) (fun hk a w' K' Q' h3 hs h=>k_move h3 (by omega) (by omega) h)
theorem i32_calls (kt:KT P g K) (kb:KBig P K) (hF:za_ K.fU32=true) {f ntmps:Nat} (hfn:FnIs P f ntmps [2] (cI32 K)) (hnt:32<=ntmps) {w:World} {S R:Nat} {r:RS} (hR:RdS w T S R r) (hRS:S ≠ R) :
  Calls P f #[pt R 0] w (FixPost T S R 4 r w (.int .i32 0) (.int .i32 (IntKind.wrap .i32 ((unbe (r.src.take 4):Nat):Int)))):=
 k_skel kt (kr:=7) (rv:=.int .i32 (IntKind.wrap .i32 ((unbe (r.src.take 4):Nat):Int))) hfn rfl (by omega) hR hRS
  (fun hk v a K' Q' hv h0 hs h=>k_big (k:=4) (kind:=.u32) kt kb.be (kb.f32 hF).ent (fun w' hv'=>big32 kt kb hF hv' hk) ⟨.i32,kt.dU32,kt.dI32,rfl⟩ hv h0 (by omega) h) (fun hk a w' K' Q' h3 hs h=>k_move h3 (by omega) (by omega) h)
theorem u16_calls (kt:KT P g K) (kb:KBig P K) (hF:za_ K.fU16=true) {f ntmps:Nat} (hfn:FnIs P f ntmps [2] (cU16 K)) (hnt:31<=ntmps) {w:World} {S R:Nat} {r:RS} (hR:RdS w T S R r) (hRS:S ≠ R) :
  Calls P f #[pt R 0] w (FixPost T S R 2 r w (.int .u16 0) (.int .u16 ((unbe (r.src.take 2):Nat):Int))):=
 k_skel kt (kr:=6) (rv:=.int .u16 ((unbe (r.src.take 2):Nat):Int)) hfn rfl (by omega) hR hRS
  (fun hk v a K' Q' hv h0 hs h=>k_big (conv:=none) (k:=2) (kind:=.u16) kt kb.be (kb.f16 hF).ent (fun w' hv'=>big16 kt kb hF hv' hk) rfl hv h0 (by omega) h) (fun hk a w' K' Q' h3 hs h=>k_move h3 (by omega) (by omega) h)
theorem r64_calls (kt:KT P g K) (kb:KBig P K) (hF:za_ K.fU64=true) {f ntmps:Nat} (hfn:FnIs P f ntmps [2] (cR64 K)) (hnt:31<=ntmps) {w:World} {S R:Nat} {r:RS} (hR:RdS w T S R r) (hRS:S ≠ R) :
  Calls P f #[pt R 0] w (FixPost T S R 8 r w (.int .u64 0) (.int .u64 ((unbe (r.src.take 8):Nat):Int))):=
 k_skel kt (kr:=6) (rv:=.int .u64 ((unbe (r.src.take 8):Nat):Int)) hfn rfl (by omega) hR hRS
  (fun hk v a K' Q' hv h0 hs h=>k_big (conv:=none) (k:=8) (kind:=.u64) kt kb.be (kb.f64 hF).ent (fun w' hv'=>big64 kt kb hF hv' hk) rfl hv h0 (by omega) h) (fun hk a w' K' Q' h3 hs h=>k_move h3 (by omega) (by omega) h)
theorem rdOk_i16 (kt:KT P g K) (kb:KBig P K) (hF:za_ K.fU16=true) {f ntmps:Nat} (hfn:FnIs P f ntmps [2] (cI16 K)) (hnt:32<=ntmps):RdOk P T .i16 f:=
 ⟨hfn.ent,fun w S R r hR hRS=>(i16_calls kt kb hF hfn hnt hR hRS).mono fun e w' h=>by
  obtain ⟨h1,h2,h3,h4⟩:=rdOk_int (p:=.i16) (.inr (.inl ⟨rfl,rfl⟩)) rfl h
  exact ⟨_,h1,h2,h3,fun X _ _=>h4 X⟩⟩
theorem rdOk_i32 (kt:KT P g K) (kb:KBig P K) (hF:za_ K.fU32=true) {f ntmps:Nat} (hfn:FnIs P f ntmps [2] (cI32 K)) (hnt:32<=ntmps):RdOk P T .i32 f:=
 ⟨hfn.ent,fun w S R r hR hRS=>(i32_calls kt kb hF hfn hnt hR hRS).mono fun e w' h=>by
  obtain ⟨h1,h2,h3,h4⟩:=rdOk_int (p:=.i32) (.inr (.inr (.inl ⟨rfl,rfl⟩))) rfl h
  exact ⟨_,h1,h2,h3,fun X _ _=>h4 X⟩⟩
theorem rdOk_i64 (kt:KT P g K) (kb:KBig P K) (hF:za_ K.fU64=true) {f ntmps n64:Nat} (h64:FnIs P K.fR64 n64 [2] (cR64 K)) (hn64:31<=n64) (hfn:FnIs P f ntmps [2] (cI64 K)) (hnt:6<=ntmps):RdOk P T .i64 f:=by
 refine ⟨hfn.ent,fun w S R r hR hRS=>?_⟩
 have hc:Calls P f #[pt R 0] w (FixPost T S R 8 r w (.int .i64 0) (.int .i64 (IntKind.wrap .i64 ((unbe (r.src.take 8):Nat):Int)))):=by
  refine hfn.calls kt.mixed (by simp) ?_
  have hsz:=jo_ #[pt R 0] ntmps (by show 1<=ntmps;omega)
  have hg0:({ tmps:=#[pt R 0]++Array.replicate (ntmps - (#[pt R 0]:Array Value).size) undef,defers:=[] }:Act).get 0=pt R 0:=by rw [ja_ _ _ _ (by simp)];rfl
  have hd0:({ tmps:=#[pt R 0]++Array.replicate (ntmps - (#[pt R 0]:Array Value).size) undef,defers:=[] }:Act).defers=[]:=rfl
  have hsz':({ tmps:=#[pt R 0]++Array.replicate (ntmps - (#[pt R 0]:Array Value).size) undef,defers:=[] }:Act).tmps.size=ntmps:=hsz
  generalize ({ tmps:=#[pt R 0]++Array.replicate (ntmps - (#[pt R 0]:Array Value).size) undef,defers:=[] }:Act)=a at hg0 hd0 hsz' ⊢
  refine q2_ (qc_ (xa_ (x:=2) (m:=0) (k0:=0) (.inl rfl) (by omega) fun a1 hp1 hg1=>?_))
  have hs1:=hp1.size
  rw [show (ji_ 2 (.int .i64 0) 3).2=3 from rfl]
  refine qc_ (qj_ (qd_ ?_))
  rw [qb_,hp1.get 0 (by omega) (.inr ⟨by omega,by omega⟩),hg0]
  refine qv_ (vs:=#[pt R 0]) h64.ent (by simp [qb_,gpe (show 3 < a1.tmps.size by omega)]) (r64_calls kt kb hF h64 hn64 hR hRS) fun e w' hR2=>?_
  obtain ⟨h1,h2⟩:=hR2
  by_cases hlt:r.src.length < 8
  ·rw [if_pos hlt] at h1
   refine ⟨_,h1.1,qw_ (k:=.u64) (k':=.i64) (m:=0) (by rw [qb_,gpe (by simp only [qa_];omega)]) (kb.d64 hF) (kb.dI64 hF) (qg_ (wpList_nil (qc_ (.ret ⟨?_,?_,h2⟩))))⟩
   ·simp only [qf_];rw [hp1.defers];exact hd0
   ·rw [if_pos hlt]
    refine ⟨?_,h1.2⟩
    simp only [zl_]
    rw [gpe (by simp only [qa_];omega),qb_,gpe (by simp only [qa_];omega)]
    rfl
  ·rw [if_neg hlt] at h1
   refine ⟨_,h1.1,qw_ (k:=.u64) (k':=.i64) (by rw [qb_,gpe (by simp only [qa_];omega)]) (kb.d64 hF) (kb.dI64 hF) (qg_ (wpList_nil (qc_ (.ret ⟨?_,?_,h2⟩))))⟩
   ·simp only [qf_];rw [hp1.defers];exact hd0
   ·rw [if_neg hlt]
    refine ⟨?_,h1.2⟩
    simp only [zl_]
    rw [gpe (by simp only [qa_];omega),qb_,gpe (by simp only [qa_];omega)]
 exact hc.mono fun e w' h=>by
  obtain ⟨h1,h2,h3,h4⟩:=rdOk_int (p:=.i64) (.inr (.inr (.inr ⟨rfl,rfl⟩))) rfl h
  exact ⟨_,h1,h2,h3,fun X _ _=>h4 X⟩
def cOk (K:Kn):Code:=(gS [ji_ 2 (.bool false),qu_ 5 fun n=>[mk (some n) (.move (tm 0)),mk (some (n + 1)) (.nilCheck (tm n)),mk (some (n + 2)) (.fieldAddr K.tRS (tm (n + 1)) 1),mk (some (n + 3)) (.load K.tB (tm (n + 2))),mk (some (n + 4)) (.unOp .not K.tB (tm (n + 3))),mk (some 2) (.assign (tm (n + 4)))],q3_ .ret] 3).1
def cComplete (K:Kn):Code:=(gS [ji_ 2 .nilIface,gIf 3 4 (fun n=>[mk (some n) (.move (tm 0)),mk (some (n + 1)) (.nilCheck (tm n)),mk (some (n + 2)) (.fieldAddr K.tRS (tm (n + 1)) 1),mk (some (n + 3)) (.load K.tB (tm (n + 2)))])
 (gS [qu_ 1 fun n=>[mk (some n) (.load K.tErr (.global K.gErr)),mk (some 2) (.assign (tm n))],q3_ .ret]) jk_,ji_ 2 .nilIface,q3_ .ret] 3).1
theorem ok_calls (kt:KT P g K) {f ntmps:Nat} (hfn:FnIs P f ntmps [2] (cOk K)) (hnt:8<=ntmps) {w:World} {S R:Nat} {r:RS} (hR:RdS w T S R r):Calls P f #[pt R 0] w fun e w'=>e=.returned (.bool (!r.bad))/\Keeps (fun _=>False) w w':=by
 refine hfn.calls kt.mixed (by simp) ?_
 have hsz:=jo_ #[pt R 0] ntmps (by show 1<=ntmps;omega)
 have hg0:({ tmps:=#[pt R 0]++Array.replicate (ntmps - (#[pt R 0]:Array Value).size) undef,defers:=[] }:Act).get 0=pt R 0:=by rw [ja_ _ _ _ (by simp)];rfl
 have hd0:({ tmps:=#[pt R 0]++Array.replicate (ntmps - (#[pt R 0]:Array Value).size) undef,defers:=[] }:Act).defers=[]:=rfl
 have hsz':({ tmps:=#[pt R 0]++Array.replicate (ntmps - (#[pt R 0]:Array Value).size) undef,defers:=[] }:Act).tmps.size=ntmps:=hsz
 generalize ({ tmps:=#[pt R 0]++Array.replicate (ntmps - (#[pt R 0]:Array Value).size) undef,defers:=[] }:Act)=a at hg0 hd0 hsz' ⊢
 obtain ⟨v,hv1,_⟩:=hR
 have hc:w.cell? ⟨R,0 + 1,none⟩=some (.bool r.bad):=by simp [World.cell?,hv1]
 refine q2_ (qc_ (xa_ (x:=2) (m:=0) (k0:=0) (.inl rfl) (by omega) fun a1 hp1 hg1=>?_))
 have hs1:=hp1.size
 rw [show (ji_ 2 (.bool false) 3).2=3 from rfl]
 refine qc_ (qj_ (qd_ ?_))
 rw [qb_,hp1.get 0 (by omega) (.inr ⟨by omega,by omega⟩),hg0]
 refine qp_ (by rw [qb_,gpe (by omega)];rfl) ?_
 refine ju_ (by rw [qb_,gpe (by simp only [qa_];omega)]) kt.f1 ?_
 refine q5_ (by rw [qb_,gpe (by simp only [qa_];omega)]) (kt.f1.var.agg _) hc ?_
 refine wl_not (b:=r.bad) (by rw [qb_,gpe (by simp only [qa_];omega)]) (qg_ (wpList_nil (qc_ (.ret ⟨?_,?_,Keeps.refl _ _⟩))))
 ·simp only [qf_];rw [hp1.defers];exact hd0
 ·simp only [zl_]
  rw [gpe (by simp only [qa_];omega),qb_,gpe (by simp only [qa_];omega)]
theorem complete_calls (kt:KT P g K) {f ntmps:Nat} (hfn:FnIs P f ntmps [2] (cComplete K)) (hnt:8<=ntmps) (hE:jp_ P K.tErr false 1) {w:World} {S R:Nat} {r:RS} (hR:RdS w T S R r) (herr:ErrAt K.gErr w) :
  Calls P f #[pt R 0] w fun e w'=>Keeps (fun _=>False) w w'/\∃ v,e=.returned v/\(r.bad=false->v=.nilIface)/\(r.bad=true->∃ t x,v=.iface t x):=by
 refine hfn.calls kt.mixed (by simp) ?_
 have hsz:=jo_ #[pt R 0] ntmps (by show 1<=ntmps;omega)
 have hg0:({ tmps:=#[pt R 0]++Array.replicate (ntmps - (#[pt R 0]:Array Value).size) undef,defers:=[] }:Act).get 0=pt R 0:=by rw [ja_ _ _ _ (by simp)];rfl
 have hd0:({ tmps:=#[pt R 0]++Array.replicate (ntmps - (#[pt R 0]:Array Value).size) undef,defers:=[] }:Act).defers=[]:=rfl
 have hsz':({ tmps:=#[pt R 0]++Array.replicate (ntmps - (#[pt R 0]:Array Value).size) undef,defers:=[] }:Act).tmps.size=ntmps:=hsz
 generalize ({ tmps:=#[pt R 0]++Array.replicate (ntmps - (#[pt R 0]:Array Value).size) undef,defers:=[] }:Act)=a at hg0 hd0 hsz' ⊢
 obtain ⟨v,hv1,_⟩:=hR
 have hc:w.cell? ⟨R,0 + 1,none⟩=some (.bool r.bad):=by simp [World.cell?,hv1]
 obtain ⟨te,xe,hce⟩:=herr
 refine q2_ (qc_ (xa_ (x:=2) (m:=0) (k0:=0) (.inl rfl) (by omega) fun a1 hp1 hg1=>?_))
 have hs1:=hp1.size
 rw [show (ji_ 2 .nilIface 3).2=3 from rfl]
 refine qc_ ?_
 have key:∀ (K':Act->World->Prop),(∀ a',a'.eval (tm (3 + 3))=.bool r.bad->Pv 3 0 0 3 a1 a'->K' a' w)->∀ Q',wpList P [mk (some 3) (.move (tm 0)),mk (some (3 + 1)) (.nilCheck (tm 3)),mk (some (3 + 2)) (.fieldAddr K.tRS (tm (3 + 1)) 1),mk (some (3 + 3)) (.load K.tB (tm (3 + 2)))].toArray (Exit.then K' Q')
   [mk (some 3) (.move (tm 0)),mk (some (3 + 1)) (.nilCheck (tm 3)),mk (some (3 + 2)) (.fieldAddr K.tRS (tm (3 + 1)) 1),mk (some (3 + 3)) (.load K.tB (tm (3 + 2)))] a1 w:=by
  intro K' hK Q'
  refine qd_ ?_
  rw [qb_,hp1.get 0 (by omega) (.inr ⟨by omega,by omega⟩),hg0]
  refine qp_ (by rw [qb_,gpe (by omega)];rfl) ?_
  refine ju_ (by rw [qb_,gpe (by simp only [qa_];omega)]) kt.f1 ?_
  refine q5_ (by rw [qb_,gpe (by simp only [qa_];omega)]) (kt.f1.var.agg _) hc (wpList_nil (hK _ ?_ ((((((Pv.refl _ _ _ _ _).put _ (by omega)).put _ (by omega)).put _ (by omega)).put _ (by omega)))))
  rw [qb_,gpe (by simp only [qa_];omega)]
 cases hb:r.bad with
 | true=>
  rw [hb] at key
  refine z3_ (key _ (fun a' he hp=>⟨he,?_⟩) _)
  have hs:=hp.size
  refine q2_ (qc_ (qj_ ?_))
  have he':a'.eval (.global K.gErr)=.pointer (some ⟨K.gErr,0,none⟩):=rfl
  refine q5_ he' (hE.agg _) hce (qg_ (wpList_nil (qc_ (.ret ⟨?_,Keeps.refl _ _,.iface te xe,?_,fun h=>(by cases h),fun _=>⟨te,xe,rfl⟩⟩))))
  ·simp only [qf_];rw [hp.defers,hp1.defers];exact hd0
  ·simp only [zl_]
   rw [gpe (by simp only [qa_];omega),qb_,gpe (by omega)]
 | false=>
  rw [hb] at key
  refine z2_ (key _ (fun a' he hp=>⟨he,.skip ?_⟩) _)
  have hs:=hp.size
  refine qc_ (xa_ (x:=2) (m:=0) (k0:=0) (.inl rfl) (by omega) fun a2 hp2 hg2=>qc_ (.ret ⟨?_,Keeps.refl _ _,.nilIface,?_,fun _=>rfl,fun h=>(by cases h)⟩))
  ·rw [hp2.defers,hp.defers,hp1.defers];exact hd0
  ·simp only [zl_];rw [hg2]
end
def cSpan (K:Kn):Code:=(gS [ji_ 4 (.slice none 0 0),gIf 10 11 (fun n=>kSrc K 0 n++[bi (some (n + 4)) .len [tm (n + 3)] [K.tSl] K.tInt,mk (some (n + 5)) (.move (tm 1)),mk (some (n + 6)) (.binOp .lss K.tInt (tm (n + 4)) (tm (n + 5)) 0),mk (some (n + 7)) (.move (tm (n + 6))),
  gd (n + 8) (.move (tm 1)) 7 false,gd (n + 9) (.binOp .lss K.tInt (tm (n + 8)) (ki .i64 0) 0) 7 false,mk (some (n + 10)) (.pick (tm (n + 7)) (.const (.bool true)) (tm (n + 9)))]) (kFailAt K 4 (.slice none 0 0)) jk_,
 qu_ 7 fun n=>kSrc K 0 n++[mk (some (n + 4)) (.move (tm 1)),mk (some (n + 5)) (.move (tm 1)),mk (some (n + 6)) (.slice K.tSl (tm (n + 3)) none (some (tm (n + 4))) (some (tm (n + 5)))),mk (some 5) (.assign (tm (n + 6)))],
 kAdvS K 1,jf_ 5 4,q3_ .ret] 6).1
section
variable {P:Program} {g:G} {K:Kn} {T S R:Nat} {r:RS} {n:Nat} {KK:Act->World->Prop} {Q:Exit->Act->World->Prop} {a:Act} {w:World}
def capAt (v:Value) (k:Nat):Value:=
 match v with
 | .slice base _ _=>.slice (if k=0 then base else base.map (·.add 0)) k k
 | v=>v
theorem jz_.cap {v:Value} {k:Nat} (h:jz_ w S v r) (hk:k<=r.src.length):jz_ w S (capAt v k) ⟨(if r.nl then V.nul else .s (r.src.take k)).octets,false,(if r.nl then V.nul else .s (r.src.take k)).isNul⟩:=by
 rcases h with ⟨h1,h2,h3⟩ | ⟨o,c,h1,h2,h3,h4,h5,h6⟩
 ·have:k=0:=by rw [h2] at hk;simpa using hk
  subst this
  rw [h3,h1]
  exact .inl ⟨rfl,rfl,rfl⟩
 ·subst h1
  rw [h2]
  have hm:min k r.src.length=k:=Nat.min_eq_left hk
  refine .inr ⟨o,k,?_,rfl,?_,by omega,h5,fun i x hi=>?_⟩
  ·by_cases h0:k=0
   ·simp [capAt,h0,V.octets]
   ·simp [capAt,h0,V.octets,hm,Addr.add]
  ·simp [V.octets];omega
  ·simp only [Bool.false_eq_true,if_false,V.octets,List.getElem?_take] at hi
   split at hi
   ·exact h6 i x hi
   ·cases hi
theorem wl_sliceHi (kt:KT P g K) {ops:Array Oper} {l:List Oper} {d:Option Nat} {y hi mx:Operand} {v:Value} {k:Nat} (hy:a.eval y=v) (hv:jz_ w S v r) (hhi:a.eval hi=.int .i64 k) (hmx:a.eval mx=.int .i64 k) (hk:k<=r.src.length)
  (h:wpList P ops Q l (a.put d (capAt v k)) w):wpList P ops Q (mk d (.slice K.tSl y none (some hi) (some mx)) :: l) a w:=by
 refine qn_ ?_ h
 obtain ⟨base,c,hvv,hb0,hlc,hcm,hb⟩:=hv.len
 subst hvv
 have hs:=kt.u8.size w
 have hk1:k<=c:=by omega
 have hk0:¬ ((k:Int) < 0):=by omega
 simp [execOp,mk,hy,hhi,hmx,Instr.sliceAt,Instr.slice,run_underlying kt.sl,Instr.sliceBounds,Instr.sliceBound,asIntOf,hs,hk1,capAt]
theorem k_advS (kt:KT P g K) {v:Value} {k l:Nat} (h0:a.get 0=pt R 0) (hl:a.get l=.int .i64 k) (hR:RdC w T S R v r) (hk:k<=r.src.length) (hRS:S ≠ R) (hn:n + 9<=a.tmps.size) (h0n:0 < n) (hln:l < n)
  (h:∀ a',Pv n 0 0 n a a'->RdS (w.setRow R #[cutAt v k,.bool r.bad]) T S R ⟨r.src.drop k,r.bad,r.nl⟩->KK a' (w.setRow R #[cutAt v k,.bool r.bad])):NWP P (kAdvS K l n).1 (Exit.then KK Q) a w:=by
 refine qj_ (qd_ ?_)
 rw [qb_,h0]
 refine wl_src kt (v:=v) (by rw [gpo (by omega)];exact h0) hR (by simp only [qa_];omega) fun a1 hp1 hg1=>?_
 have hs1:=hp1.size
 rw [qa_] at hs1
 have hgn:a1.get n=pt R 0:=by rw [hp1.get n (by omega) (.inr ⟨by omega,by omega⟩),gpe (by omega)]
 have hgl:a1.get l=.int .i64 k:=by rw [hp1.get l (by omega) (.inr ⟨by omega,by omega⟩),gpo (by omega)];exact hl
 have hp01:Pv n 0 0 n a a1:=((Pv.refl n 0 0 n a).put (pt R 0) (by omega)).trans ⟨hp1.size,hp1.defers,fun s hs hh=>hp1.get s (by omega) (.inr ⟨by omega,by omega⟩)⟩
 refine qd_ ?_
 rw [qb_,hgl]
 refine wl_sliceLo kt (k:=k) (by rw [qb_,gpo (by omega)];exact hg1) hR.2 (by rw [qb_,gpe (by omega)]) hk ?_
 refine qp_ (by rw [qb_,gpo (by omega),gpo (by omega),hgn];rfl) ?_
 refine ju_ (by rw [qb_,gpe (by simp only [qa_];omega)]) kt.f0 ?_
 obtain ⟨h1c,h2c⟩:=oneCell_src (hR.2.cut hk)
 refine q8_ (cur:=#[v,.bool r.bad]) (t:=T) (v:=cutAt v k) (vs:=[cutAt v k]) (by rw [qb_,gpe (by simp only [qa_];omega)]) (by rw [qb_,gpo (by omega),gpo (by omega),gpe (by simp only [qa_];omega)]) (by rw [h2c]) (kt.f0.var.size _) hR.1 (by simp)
  (fun u hu=>by simp at hu;rw [hu];exact h1c) (wpList_nil ?_)
 have e1:qt_ #[v,.bool r.bad] (0 + 0) [cutAt v k]=#[cutAt v k,.bool r.bad]:=by simp [qt_]
 rw [e1]
 refine h _ ((((hp01.put _ (by omega)).put _ (by omega)).put _ (by omega)).put _ (by omega)) ⟨_,setRow_heap _ _ _ _ _ _ hR.1,(hR.2.cut hk).keep (Keeps.setRow (fun k=>k=R) _ _ _ rfl) hRS⟩
theorem span_calls (kt:KT P g K) {f ntmps:Nat} (hfn:FnIs P f ntmps [4] (cSpan K)) (hnt:40<=ntmps) {k:Int} (hR:RdS w T S R r) (hRS:S ≠ R):Calls P f #[pt R 0,.int .i64 k] w fun e w'=>
  ∃ v,e=.returned v/\RdS w' T S R (qo_ k r).2/\Keeps (·=R) w w'/\jz_ w' S v ⟨(qo_ k r).1.octets,false,(qo_ k r).1.isNul⟩:=by
 refine hfn.calls kt.mixed (by simp) ?_
 have hsz:=jo_ #[pt R 0,.int .i64 k] ntmps (by show 2<=ntmps;omega)
 have hg0:({ tmps:=#[pt R 0,.int .i64 k]++Array.replicate (ntmps - (#[pt R 0,.int .i64 k]:Array Value).size) undef,defers:=[] }:Act).get 0=pt R 0:=by rw [ja_ _ _ _ (by simp)];rfl
 have hg1:({ tmps:=#[pt R 0,.int .i64 k]++Array.replicate (ntmps - (#[pt R 0,.int .i64 k]:Array Value).size) undef,defers:=[] }:Act).get 1=.int .i64 k:=by rw [ja_ _ _ _ (by simp)];rfl
 have hd0:({ tmps:=#[pt R 0,.int .i64 k]++Array.replicate (ntmps - (#[pt R 0,.int .i64 k]:Array Value).size) undef,defers:=[] }:Act).defers=[]:=rfl
 have hsz':({ tmps:=#[pt R 0,.int .i64 k]++Array.replicate (ntmps - (#[pt R 0,.int .i64 k]:Array Value).size) undef,defers:=[] }:Act).tmps.size=ntmps:=hsz
 generalize ({ tmps:=#[pt R 0,.int .i64 k]++Array.replicate (ntmps - (#[pt R 0,.int .i64 k]:Array Value).size) undef,defers:=[] }:Act)=a at hg0 hg1 hd0 hsz' ⊢
 obtain ⟨v,hv⟩:=hR
 refine q2_ (qc_ (xa_ (x:=4) (m:=0) (k0:=0) (.inl rfl) (by omega) fun a1 hp1 hg41=>?_))
 have hs1:=hp1.size
 have hq1:∀ s,s < 4->a1.get s=a.get s:=fun s h=>hp1.get s (by omega) (.inr ⟨by omega,by omega⟩)
 rw [show (ji_ 4 (.slice none 0 0) 6).2=6 from rfl]
 obtain ⟨base,c,hvv,hb0,hlc,hcm,hb⟩:=hv.2.len
 have htest:∀ (b:Bool) (K':Act->World->Prop) (Q':Exit->Act->World->Prop),b=(decide ((r.src.length:Int) < k) || decide (k < 0))->(∀ a',a'.eval (tm (6 + 10))=.bool b->Pv 6 0 0 6 a1 a'->K' a' w) ->
   wpList P (kSrc K 0 6++[bi (some (6 + 4)) .len [tm (6 + 3)] [K.tSl] K.tInt,mk (some (6 + 5)) (.move (tm 1)),mk (some (6 + 6)) (.binOp .lss K.tInt (tm (6 + 4)) (tm (6 + 5)) 0),mk (some (6 + 7)) (.move (tm (6 + 6))),
    gd (6 + 8) (.move (tm 1)) 7 false,gd (6 + 9) (.binOp .lss K.tInt (tm (6 + 8)) (ki .i64 0) 0) 7 false,mk (some (6 + 10)) (.pick (tm (6 + 7)) (.const (.bool true)) (tm (6 + 9)))]).toArray (Exit.then K' Q')
   (kSrc K 0 6++[bi (some (6 + 4)) .len [tm (6 + 3)] [K.tSl] K.tInt,mk (some (6 + 5)) (.move (tm 1)),mk (some (6 + 6)) (.binOp .lss K.tInt (tm (6 + 4)) (tm (6 + 5)) 0),mk (some (6 + 7)) (.move (tm (6 + 6))),
    gd (6 + 8) (.move (tm 1)) 7 false,gd (6 + 9) (.binOp .lss K.tInt (tm (6 + 8)) (ki .i64 0) 0) 7 false,mk (some (6 + 10)) (.pick (tm (6 + 7)) (.const (.bool true)) (tm (6 + 9)))]) a1 w:=by
  intro b K' Q' hb hK
  refine wl_src kt ((hq1 0 (by omega)).trans hg0) hv (by omega) fun a2 hp2 hg2=>?_
  have hs2:=hp2.size
  have hl2:a2.get 1=.int .i64 k:=by rw [hp2.get 1 (by omega) (.inr ⟨by omega,by omega⟩),hq1 1 (by omega)];exact hg1
  refine wl_len (n:=r.src.length) (c:=c) (base:=base) (by rw [qb_,hg2,hvv]) kt.sl ?_
  refine qd_ ?_
  rw [qb_,gpo (by omega),hl2]
  refine q9_ (b:=decide ((r.src.length:Int) < k)) (p:=(r.src.length:Int)) (q:=k) (k:=.i64) (by rw [qb_,gpo (by omega),gpe (by omega)]) (by rw [qb_,gpe (by simp only [qa_];omega)]) (.inr (.inr (.inl ⟨rfl,rfl⟩))) ?_
  refine qd_ ?_
  rw [qb_,gpe (by simp only [qa_];omega)]
  have hp3:Pv 6 0 0 6 a1 ((((a2.put (some (6 + 4)) (.int .i64 (r.src.length:Int))).put (some (6 + 5)) (.int .i64 k)).put (some (6 + 6)) (.bool (decide ((r.src.length:Int) < k)))).put (some (6 + 7)) (.bool (decide ((r.src.length:Int) < k)))):=
   (((hp2.put _ (by omega)).put _ (by omega)).put _ (by omega)).put _ (by omega)
  have hg13:((((a2.put (some (6 + 4)) (.int .i64 (r.src.length:Int))).put (some (6 + 5)) (.int .i64 k)).put (some (6 + 6)) (.bool (decide ((r.src.length:Int) < k)))).put (some (6 + 7)) (.bool (decide ((r.src.length:Int) < k)))).get (6 + 7)=.bool (decide ((r.src.length:Int) < k)):=gpe (by simp only [qa_];omega)
  generalize ((((a2.put (some (6 + 4)) (.int .i64 (r.src.length:Int))).put (some (6 + 5)) (.int .i64 k)).put (some (6 + 6)) (.bool (decide ((r.src.length:Int) < k)))).put (some (6 + 7)) (.bool (decide ((r.src.length:Int) < k))))=A at hp3 hg13 ⊢
  have hsA:=hp3.size
  have hl3:A.get 1=.int .i64 k:=by rw [hp3.get 1 (by omega) (.inr ⟨by omega,by omega⟩),hq1 1 (by omega)];exact hg1
  have hy:∀ (B:Act),B.tmps.size=A.tmps.size->B.get (6 + 7)=.bool (decide ((r.src.length:Int) < k))->yielded (kSrc K 0 6++[bi (some (6 + 4)) .len [tm (6 + 3)] [K.tSl] K.tInt,mk (some (6 + 5)) (.move (tm 1)),mk (some (6 + 6)) (.binOp .lss K.tInt (tm (6 + 4)) (tm (6 + 5)) 0),mk (some (6 + 7)) (.move (tm (6 + 6))),
    gd (6 + 8) (.move (tm 1)) 7 false,gd (6 + 9) (.binOp .lss K.tInt (tm (6 + 8)) (ki .i64 0) 0) 7 false,mk (some (6 + 10)) (.pick (tm (6 + 7)) (.const (.bool true)) (tm (6 + 9)))]).toArray B.tmps 7=some (decide ((r.src.length:Int) < k)):=fun B hB hg=>
   zb_ (d:=6 + 7) (o:=mk (some (6 + 7)) (.move (tm (6 + 6)))) rfl rfl (by omega) hg
  by_cases hlt:(r.src.length:Int) < k
  ·have hdt:decide ((r.src.length:Int) < k)=true:=by simp [hlt]
   rw [hdt] at hg13 hy hb
   refine z1_ (c:=true) (hy A rfl hg13) (by simp) ?_
   refine z1_ (c:=true) (hy _ (qa_ _ _ _) (by rw [gpo (by omega)];exact hg13)) (by simp) ?_
   refine wl_pick (b:=true) (by rw [qb_,gpo (by omega),gpo (by omega)];exact hg13) (wpList_nil (hK _ ?_ (((hp3.put undef (d:=6 + 8) (by omega)).put undef (d:=6 + 9) (by omega)).put _ (by omega))))
   rw [qb_,gpe (by simp only [qa_];omega),hb]
   rfl
  ·have hdf:decide ((r.src.length:Int) < k)=false:=by simp [hlt]
   rw [hdf] at hg13 hy hb
   refine xf_ (v:=.int .i64 k) (hy A rfl hg13) (by simp only [execOp,mk,qb_,hl3];rfl) ?_
   refine xf_ (v:=.bool (decide (k < 0))) (hy _ (qa_ _ _ _) (by rw [gpo (by omega)];exact hg13)) ?_ ?_
   ·have he1:(A.put (some (6 + 8)) (.int .i64 k)).eval (tm (6 + 8))=.int .i64 k:=by rw [qb_];exact gpe (by omega)
    have he2:(A.put (some (6 + 8)) (.int .i64 k)).eval (ki .i64 0)=.int .i64 0:=rfl
    have hg:(eqGuard .lss K.tInt (tm (6 + 8)) (ki .i64 0) (.int .i64 k) (.int .i64 0)).run P w=.ok () w:=by simp [eqGuard]
    have hr:=run_cmp (P:=P) (w:=w) (T:=K.tInt) (k:=.i64) (p:=k) (q:=0) (op:=.lss) (b:=decide (k < 0)) (.inr (.inr (.inl ⟨rfl,rfl⟩)))
    simp only [execOp,mk,he1,he2,Sem.run_bind,hg,Result.andThen_ok,hr,Sem.run_pure]
   ·refine wl_pick (b:=false) (by rw [qb_,gpo (by omega),gpo (by omega)];exact hg13) (wpList_nil (hK _ ?_ (((hp3.put _ (d:=6 + 8) (by omega)).put _ (d:=6 + 9) (by omega)).put _ (by omega))))
    rw [qb_,gpe (by simp only [qa_];omega),hb]
    simp only [Bool.false_eq_true,if_false,Bool.false_or]
    rw [qb_,gpe (by simp only [qa_];omega)]
 refine qc_ ?_
 rw [qr_]
 by_cases hbad:(r.src.length:Int) < k \/ k < 0
 ·have hrs:qo_ k r=(.nul,.fail):=by simp only [qo_,hbad,if_true]
  rw [hrs]
  refine z3_ (htest true _ _ (by rcases hbad with h | h <;> simp [h]) fun a2 he hp2=>⟨he,?_⟩)
  have hs2:=hp2.size
  refine k_failAt kt (by rw [hp2.get 0 (by omega) (.inr ⟨by omega,by omega⟩),hq1 0 (by omega)];exact hg0) hv hRS (by omega) (by omega) fun a3 w3 hd3 hg3 hrd3 hk3=>⟨by rw [hd3,hp2.defers,hp1.defers];exact hd0,.slice none 0 0,?_,hrd3,hk3,.inl ⟨rfl,rfl,rfl⟩⟩
  simp only [zl_];rw [hg3]
 ·have hk0:0<=k:=by omega
  obtain ⟨kn,rfl⟩:∃ kn:Nat,k=(kn:Int):=⟨k.toNat,by omega⟩
  have hkn:kn<=r.src.length:=by omega
  have hrs:qo_ (kn:Int) r=(if r.nl then .nul else .s (r.src.take kn),⟨r.src.drop kn,r.bad,r.nl⟩):=by simp only [qo_,hbad,if_false,Int.toNat_natCast]
  rw [hrs]
  refine z2_ (htest false _ _ (by simp at hbad ⊢;omega) fun a2 he hp2=>⟨he,.skip ?_⟩)
  have hs2:=hp2.size
  have h02:a2.get 0=pt R 0:=by rw [hp2.get 0 (by omega) (.inr ⟨by omega,by omega⟩),hq1 0 (by omega)];exact hg0
  have h12:a2.get 1=.int .i64 kn:=by rw [hp2.get 1 (by omega) (.inr ⟨by omega,by omega⟩),hq1 1 (by omega)];exact hg1
  show LW P [qu_ 7 fun n=>kSrc K 0 n++[mk (some (n + 4)) (.move (tm 1)),mk (some (n + 5)) (.move (tm 1)),mk (some (n + 6)) (.slice K.tSl (tm (n + 3)) none (some (tm (n + 4))) (some (tm (n + 5)))),mk (some 5) (.assign (tm (n + 6)))],kAdvS K 1,jf_ 5 4,q3_ .ret] 23 _ a2 w
  refine qc_ (qj_ (wl_src kt h02 hv (by omega) fun a3 hp3 hg3=>?_))
  have hs3:=hp3.size
  have h13:a3.get 1=.int .i64 kn:=(hp3.get 1 (by omega) (.inr ⟨by omega,by omega⟩)).trans h12
  have h03:a3.get 0=pt R 0:=(hp3.get 0 (by omega) (.inr ⟨by omega,by omega⟩)).trans h02
  refine qd_ ?_
  rw [qb_,h13]
  refine qd_ ?_
  rw [qb_,gpo (by omega),h13]
  refine wl_sliceHi kt (k:=kn) (by rw [qb_,gpo (by omega),gpo (by omega)];exact hg3) hv.2 (by rw [qb_,gpo (by omega),gpe (by omega)]) (by rw [qb_,gpe (by simp only [qa_];omega)]) hkn ?_
  refine qg_ (wpList_nil ?_)
  rw [qb_,gpe (by simp only [qa_];omega)]
  have hp4:Pv 5 0 0 23 a3 ((((a3.put (some (23 + 4)) (.int .i64 kn)).put (some (23 + 5)) (.int .i64 kn)).put (some (23 + 6)) (capAt v kn)).put (some 5) (capAt v kn)):=((((Pv.refl _ _ _ _ _).put _ (by omega)).put _ (by omega)).put _ (by omega)).put _ (by omega)
  have hg5:((((a3.put (some (23 + 4)) (.int .i64 kn)).put (some (23 + 5)) (.int .i64 kn)).put (some (23 + 6)) (capAt v kn)).put (some 5) (capAt v kn)).get 5=capAt v kn:=gpe (by simp only [qa_];omega)
  generalize ((((a3.put (some (23 + 4)) (.int .i64 kn)).put (some (23 + 5)) (.int .i64 kn)).put (some (23 + 6)) (capAt v kn)).put (some 5) (capAt v kn))=a4 at hp4 hg5 ⊢
  have hs4:=hp4.size
  refine qc_ (k_advS kt (k:=kn) ((hp4.get 0 (by omega) (.inr ⟨by omega,by omega⟩)).trans h03) ((hp4.get 1 (by omega) (.inr ⟨by omega,by omega⟩)).trans h13) hv hkn hRS (by simp only [qu_];omega) (by simp only [qu_];omega) (by simp only [qu_];omega) fun a5 hp5 hrd5=>?_)
  simp only [qu_] at hp5
  have hs5:=hp5.size
  refine qc_ (s_move (x:=4) (m:=0) (k0:=0) (.inl rfl) (Nat.le_refl _) (by omega) (by simp only [kAdvS,qu_];omega) (by omega) fun a6 hp6 hg6=>qc_ (.ret ⟨?_,capAt v kn,?_,hrd5,Keeps.setRow (fun k=>k=R) _ _ _ rfl,(hv.2.cap hkn).keep (Keeps.setRow (fun k=>k=R) _ _ _ rfl) hRS⟩))
  ·rw [hp6.defers,hp5.defers,hp4.defers,hp3.defers,hp2.defers,hp1.defers];exact hd0
  ·simp only [zl_]
   rw [hg6,hp5.get 5 (by omega) (.inr ⟨by omega,by omega⟩),hg5]
end
theorem and127 {b:Nat} (_h:b < 256):b &&& 127=b % 128:=by
 have:=Nat.and_two_pow_sub_one_eq_mod b 7
 simpa using this
theorem and128 {b:Nat} (h:b < 256):b &&& 128=if b < 128 then 0 else 128:=by
 have key:∀ x:Fin 256,x.val &&& 128=if x.val < 128 then 0 else 128:=by decide +kernel
 exact key ⟨b,h⟩
section
variable {P:Program} {g:G} {K:Kn} {T S:Nat} {r:RS} {n:Nat} {KK:Act->World->Prop} {Q:Exit->Act->World->Prop} {a:Act} {w:World} {v:Value}
theorem run_and {A b m:Nat} (h:b < 256) (hm:m < 256) (w:World):(binOp .and A (.int .u8 (b:Int)) (.int .u8 (m:Int))).run P w=.ok (.int .u8 ((b &&& m:Nat):Int)) w:=by
 have e1:BitVec.ofInt IntKind.u8.bits (b:Int)=BitVec.ofNat IntKind.u8.bits b:=BitVec.ofInt_natCast ..
 have e2:BitVec.ofInt IntKind.u8.bits (m:Int)=BitVec.ofNat IntKind.u8.bits m:=BitVec.ofInt_natCast ..
 have hlt:b &&& m < 256:=Nat.lt_of_le_of_lt Nat.and_le_left h
 have e3:(BitVec.ofNat IntKind.u8.bits b &&& BitVec.ofNat IntKind.u8.bits m).toNat=b &&& m:=by
  rw [BitVec.toNat_and,BitVec.toNat_ofNat,BitVec.toNat_ofNat,Nat.mod_eq_of_lt (show b < 2 ^ IntKind.u8.bits from h),Nat.mod_eq_of_lt (show m < 2 ^ IntKind.u8.bits from hm)]
 have e4:IntKind.u8.wrap ((b &&& m:Nat):Int)=((b &&& m:Nat):Int):=by
  simp only [IntKind.wrap,IntKind.bits,IntKind.signed]
  simp
  omega
 have hkk:(IntKind.u8 ≠ IntKind.u8)=False:=by simp
 simp only [binOp,hkk,if_false,Op.intBits,e1,e2,e3,e4,Sem.run_pure]
theorem wl_uIdx (kt:KT P g K) {ops:Array Oper} {l:List Oper} {i:Nat} {b:UInt8} (h0:a.get 0=v) (hv:jz_ w S v r) (hi:r.src[i]?=some b) (hn:n + 3<=a.tmps.size) (h:∀ a',Pv n 0 0 n a a'->a'.get (n + 2)=.int .u8 (b.toNat:Int)->wpList P ops Q l a' w):wpList P ops Q (uIdx K i n++l) a w:=by
 have hil:i < r.src.length:=(List.getElem?_eq_some_iff.1 hi).1
 obtain ⟨o,c,hvv,hoct⟩:=src_take hv (by omega)
 show wpList P ops Q (mk (some n) (.move (tm 0)) :: mk (some (n + 1)) (.indexAddr K.tSl (tm n) (ki .i64 i)) :: mk (some (n + 2)) (.load K.tU8 (tm (n + 1))) :: l) a w
 refine qd_ ?_
 rw [qb_,h0,hvv]
 refine j3_ (i:=i) (k:=.i64) (sz:=1) (by rw [qb_,gpe (by omega)]) rfl hil kt.sl (kt.u8.size _) ?_
 refine q5_ (v:=.int .u8 (b.toNat:Int)) (by rw [qb_,gpe (by simp only [qa_];omega)]) (kt.u8.agg _) (by rw [Nat.mul_one];exact hoct i b hi) ?_
 exact h _ ((((Pv.refl _ _ _ _ _).put _ (by omega)).put _ (by omega)).put _ (by omega)) (gpe (by simp only [qa_];omega))
theorem u_short (kt:KT P g K) {k:Nat} (h0:a.get 0=v) (hv:jz_ w S v r) (hn:n + 3<=a.tmps.size) (hgo:r.src.length < k->∀ a',Pv n 0 0 n a a'->Q (.goto 0) a' w) (hok:k<=r.src.length->∀ a',Pv n 0 0 n a a'->Q .normal a' w):NWP P (uShort K k n).1 Q a w:=by
 obtain ⟨base,c,hvv,_⟩:=hv.len
 have key:∀ (b:Bool) (K':Act->World->Prop),b=decide ((r.src.length:Int) < (k:Int))->(∀ a',a'.eval (tm (n + 2))=.bool b->Pv n 0 0 n a a'->K' a' w) ->
   wpList P [mk (some n) (.move (tm 0)),bi (some (n + 1)) .len [tm n] [K.tSl] K.tInt,mk (some (n + 2)) (.binOp .lss K.tInt (tm (n + 1)) (ki .i64 k) 0)].toArray (Exit.then K' Q) [mk (some n) (.move (tm 0)),bi (some (n + 1)) .len [tm n] [K.tSl] K.tInt,mk (some (n + 2)) (.binOp .lss K.tInt (tm (n + 1)) (ki .i64 k) 0)] a w:=by
  intro b K' hb hK
  refine qd_ ?_
  rw [qb_,h0,hvv]
  refine wl_len (by rw [qb_,gpe (by omega)]) kt.sl ?_
  refine q9_ (b:=b) (p:=(r.src.length:Int)) (q:=k) (k:=.i64) (by rw [qb_,gpe (by simp only [qa_];omega)]) rfl (.inr (.inr (.inl ⟨rfl,hb⟩))) (wpList_nil (hK _ (by rw [qb_,gpe (by simp only [qa_];omega)]) ((((Pv.refl _ _ _ _ _).put _ (by omega)).put _ (by omega)).put _ (by omega))))
 by_cases hlt:r.src.length < k
 ·exact z3_ (key true _ (by simp;omega) fun a' he hp=>⟨he,.goto (hgo hlt a' hp)⟩)
 ·exact z2_ (key false _ (by simp;omega) fun a' he hp=>⟨he,.skip (hok (by omega) a' hp)⟩)
theorem u_ret {i acc:Nat} (h4:a.get 4=.int .u32 acc) (hn:n + 1<=a.tmps.size) (h4n:4 < n) (h:∀ a',a'.defers=a.defers->a'.get 2=.int .u32 acc->a'.get 3=.int .i64 i->Q .ret a' w):NWP P (uRet i n).1 Q a w:=by
 refine q2_ (qc_ (qj_ (qd_ (qg_ (qg_ (wpList_nil (qc_ (.ret (h _ (by simp only [qf_]) ?_ ?_)))))))))
 ·rw [gpo (by omega),gpe (by simp only [qa_];omega),qb_,gpe (by omega),qb_,h4]
 ·rw [gpe (by simp only [qa_];omega)];rfl
theorem u_test (kt:KT P g K) {i acc:Nat} {b:UInt8} (h0:a.get 0=v) (h4:a.get 4=.int .u32 acc) (hv:jz_ w S v r) (hi:r.src[i]?=some b) (hn:n + 9<=a.tmps.size) (h4n:4 < n)
  (hret:b.toNat < 128->∀ a',a'.defers=a.defers->a'.get 2=.int .u32 acc->a'.get 3=.int .i64 ((i + 1:Nat):Int)->Q .ret a' w) (hgo:128<=b.toNat->r.src.length < i + 2->∀ a',Pv n 0 0 n a a'->Q (.goto 0) a' w) (hok:128<=b.toNat->i + 2<=r.src.length->∀ a',Pv n 0 0 n a a'->Q .normal a' w) :
  NWP P (uTest K i n).1 Q a w:=by
 have hb:=UInt8.toNat_lt b
 have key:∀ (c:Bool) (K':Act->World->Prop),c=decide (b.toNat < 128)->(∀ a',a'.eval (tm (n + 4))=.bool c->Pv n 0 0 n a a'->K' a' w) ->
   wpList P (uIdx K i n++[mk (some (n + 3)) (.binOp .and K.tU8 (tm (n + 2)) (ki .u8 128) 0),mk (some (n + 4)) (.binOp .eql K.tU8 (tm (n + 3)) (ki .u8 0) 0)]).toArray (Exit.then K' Q) (uIdx K i n++[mk (some (n + 3)) (.binOp .and K.tU8 (tm (n + 2)) (ki .u8 128) 0),mk (some (n + 4)) (.binOp .eql K.tU8 (tm (n + 3)) (ki .u8 0) 0)]) a w:=by
  intro c K' hc hK
  refine wl_uIdx kt h0 hv hi (by omega) fun a1 hp1 hg1=>?_
  have hs1:=hp1.size
  refine zk_ (k:=.u8) (m:=(b.toNat:Int)) (n:=((128:Nat):Int)) (by rw [qb_];exact hg1) rfl (by simp) (run_and hb (by omega) w) ?_
  rw [and128 hb]
  refine q9_ (b:=c) (p:=((if b.toNat < 128 then 0 else 128:Nat):Int)) (q:=0) (k:=.u8) (by rw [qb_,gpe (by omega)]) rfl (.inr (.inr (.inr (.inr (.inl ⟨rfl,?_⟩))))) (wpList_nil (hK _ (by rw [qb_,gpe (by simp only [qa_];omega)]) ((hp1.put _ (by omega)).put _ (by omega))))
  rw [hc]
  by_cases h:b.toNat < 128 <;> simp [h]
 by_cases hlt:b.toNat < 128
 ·refine z3_ (key true _ (by simp [hlt]) fun a' he hp=>⟨he,?_⟩)
  exact u_ret ((hp.get 4 (by omega) (.inr ⟨by omega,by omega⟩)).trans h4) (by have:=hp.size;omega) (by omega) fun a2 hd hg2 hg3=>hret hlt a2 (hd.trans hp.defers) hg2 hg3
 ·refine z2_ (key false _ (by simp [hlt]) fun a' he hp=>⟨he,?_⟩)
  have hs:=hp.size
  rw [show (uRet (i + 1) (n + 5)).2=n + 6 from rfl]
  have hpm:∀ a2,Pv (n + 6) 0 0 (n + 6) a' a2->Pv n 0 0 n a a2:=fun a2 h2=>hp.trans ⟨h2.size,h2.defers,fun s hs hh=>h2.get s (by omega) (.inr ⟨by omega,by omega⟩)⟩
  exact u_short kt ((hp.get 0 (by omega) (.inr ⟨by omega,by omega⟩)).trans h0) hv (by omega) (fun h2 a2 hp2=>hgo (by omega) h2 a2 (hpm a2 hp2)) (fun h2 a2 hp2=>hok (by omega) h2 a2 (hpm a2 hp2))
theorem u_first (kt:KT P g K) {b:UInt8} (h0:a.get 0=v) (hv:jz_ w S v r) (hi:r.src[0]?=some b) (hn:n + 5<=a.tmps.size) (h4n:5 < n) (h:∀ a',Pv 4 0 0 n a a'->a'.get 4=.int .u32 ((b.toNat % 128:Nat):Int)->KK a' w):NWP P (uFirst K n).1 (Exit.then KK Q) a w:=by
 have hb:=UInt8.toNat_lt b
 refine qj_ (wl_uIdx kt h0 hv hi (by omega) fun a1 hp1 hg1=>?_)
 have hs1:=hp1.size
 refine zk_ (k:=.u8) (m:=(b.toNat:Int)) (n:=((127:Nat):Int)) (by rw [qb_];exact hg1) rfl (by simp) (run_and hb (by omega) w) ?_
 rw [and127 hb]
 refine qw_ (k:=.u8) (k':=.u32) (by rw [qb_,gpe (by omega)]) kt.dU8 kt.dU32 ?_
 rw [uk_wrap (.inr (.inl rfl)) (by simp [IntKind.bits];omega)]
 refine qg_ (wpList_nil ?_)
 rw [qb_,gpe (by simp only [qa_];omega)]
 have hp:Pv 4 0 0 n a a1:=⟨hp1.size,hp1.defers,fun s hs hh=>hp1.get s (by omega) (.inr ⟨by omega,by omega⟩)⟩
 exact h _ (((hp.put _ (by omega)).put _ (by omega)).put _ (by omega)) (gpe (by simp only [qa_];omega))
theorem u_next (kt:KT P g K) {i s acc:Nat} {b:UInt8} (h0:a.get 0=v) (h4:a.get 4=.int .u32 acc) (hacc:acc < 2 ^ s) (hs:s + 8<=32) (hv:jz_ w S v r) (hi:r.src[i]?=some b) (hn:n + 8<=a.tmps.size) (h4n:5 < n)
  (h:∀ a',Pv 4 0 0 n a a'->a'.get 4=.int .u32 ((b.toNat % 128 * 2 ^ s + acc:Nat):Int)->KK a' w):NWP P (uNext K i s n).1 (Exit.then KK Q) a w:=by
 have hb:=UInt8.toNat_lt b
 have hm:b.toNat % 128 < 256:=by omega
 refine qj_ (qd_ ?_)
 rw [qb_,h4]
 refine wl_uIdx kt (by rw [gpo (by omega)];exact h0) hv hi (by simp only [qa_];omega) fun a1 hp1 hg1=>?_
 have hs1:=hp1.size
 rw [qa_] at hs1
 have hgn:a1.get n=.int .u32 acc:=by rw [hp1.get n (by omega) (.inr ⟨by omega,by omega⟩),gpe (by omega)]
 have hp:Pv 4 0 0 n a a1:=((Pv.refl 4 0 0 n a).put (.int .u32 acc) (by omega)).trans ⟨hp1.size,hp1.defers,fun s hs hh=>hp1.get s (by omega) (.inr ⟨by omega,by omega⟩)⟩
 refine zk_ (k:=.u8) (m:=(b.toNat:Int)) (n:=((127:Nat):Int)) (by rw [qb_];exact hg1) rfl (by simp) (run_and hb (by omega) w) ?_
 rw [and127 hb]
 refine qw_ (k:=.u8) (k':=.u32) (by rw [qb_,gpe (by omega)]) kt.dU8 kt.dU32 ?_
 rw [uk_wrap (.inr (.inl rfl)) (by simp [IntKind.bits];omega)]
 refine qn_ (v:=.int .u32 ((b.toNat % 128 * 2 ^ s:Nat):Int)) (w':=w) ?_ ?_
 ·have e1:∀ B:Act,B.eval (ki .u64 (s:Int))=.int .u64 (s:Int):=fun _=>rfl
  have e2:(((a1.put (some (n + 4)) (.int .u8 ((b.toNat % 128:Nat):Int))).put (some (n + 5)) (.int .u32 ((b.toNat % 128:Nat):Int)))).eval (tm (n + 5))=.int .u32 ((b.toNat % 128:Nat):Int):=by rw [qb_,gpe (by simp only [qa_];omega)]
  have hr:=run_shl (P:=P) (A:=K.tU32) (.inr (.inl rfl)) hm (show s + 8<=IntKind.u32.bits by simpa [IntKind.bits] using hs) w
  have hg:(eqGuard .shl K.tU32 (tm (n + 5)) (ki .u64 (s:Int)) (.int .u32 ((b.toNat % 128:Nat):Int)) (.int .u64 (s:Int))).run P w=.ok () w:=by simp [eqGuard]
  simp only [execOp,mk,e1,e2,Sem.run_bind,hg,Result.andThen_ok,hr,Sem.run_pure]
 refine zk_ (k:=.u32) (m:=(acc:Int)) (n:=((b.toNat % 128 * 2 ^ s:Nat):Int)) (by rw [qb_,gpo (by omega),gpo (by omega),gpo (by omega)];exact hgn) (by rw [qb_,gpe (by simp only [qa_];omega)]) (by simp)
  (run_or (.inr (.inl rfl)) hacc hm (by simpa [IntKind.bits] using hs) w) ?_
 refine qg_ (wpList_nil ?_)
 rw [qb_,gpe (by simp only [qa_];omega)]
 exact h _ (((((hp.put _ (by omega)).put _ (by omega)).put _ (by omega)).put _ (by omega)).put _ (by omega)) (gpe (by simp only [qa_];omega))
end
section
variable {P:Program} {g:G} {K:Kn} {T S R:Nat} {r:RS} {n:Nat} {KK:Act->World->Prop} {Q:Exit->Act->World->Prop} {a:Act} {w:World} {v:Value}
theorem run_shl28 {A b:Nat} (w:World):(binOp .shl A (.int .u32 (b:Int)) (.int .u64 28)).run P w=.ok (.int .u32 ((b % 16 * 2 ^ 28:Nat):Int)) w:=by
 have h5:IntKind.u32.wrap ((b:Int) * 2 ^ 28)=((b % 16 * 2 ^ 28:Nat):Int):=by
  simp [IntKind.wrap,IntKind.bits,IntKind.signed]
  omega
 have h1:¬ ((28:Int) < 0):=by omega
 have h2:min (28:Int).toNat IntKind.u32.bits=28:=by simp [IntKind.bits]
 simp only [binOp,Op.shift,h1,if_false,h2,h5,Sem.run_pure]
theorem run_or28 {A acc b:Nat} (ha:acc < 2 ^ 28) (hb:b < 16) (w:World):(binOp .or A (.int .u32 (acc:Int)) (.int .u32 ((b * 2 ^ 28:Nat):Int))).run P w=.ok (.int .u32 ((b * 2 ^ 28 + acc:Nat):Int)) w:=by
 have h3:b * 2 ^ 28 + acc < 2 ^ IntKind.u32.bits:=by simp only [IntKind.bits];omega
 have e1:BitVec.ofInt IntKind.u32.bits (acc:Int)=BitVec.ofNat IntKind.u32.bits acc:=BitVec.ofInt_natCast ..
 have e2:BitVec.ofInt IntKind.u32.bits ((b * 2 ^ 28:Nat):Int)=BitVec.ofNat IntKind.u32.bits (b * 2 ^ 28):=BitVec.ofInt_natCast ..
 have e3:acc ||| b * 2 ^ 28=b * 2 ^ 28 + acc:=by
  rw [Nat.or_comm,Nat.mul_comm,<- Nat.two_pow_add_eq_or_of_lt ha]
 have e4:(BitVec.ofNat IntKind.u32.bits acc ||| BitVec.ofNat IntKind.u32.bits (b * 2 ^ 28)).toNat=b * 2 ^ 28 + acc:=by
  rw [BitVec.toNat_or,BitVec.toNat_ofNat,BitVec.toNat_ofNat,Nat.mod_eq_of_lt (Nat.lt_of_le_of_lt (Nat.le_add_left _ _) h3),Nat.mod_eq_of_lt (Nat.lt_of_le_of_lt (Nat.le_add_right _ _) h3),e3]
 have hkk:(IntKind.u32 ≠ IntKind.u32)=False:=by simp
 simp only [binOp,hkk,if_false,Op.intBits,e1,e2,e4,uk_wrap (.inr (.inl rfl)) h3,Sem.run_pure]
theorem u_last (kt:KT P g K) {acc:Nat} {b:UInt8} (h0:a.get 0=v) (h4:a.get 4=.int .u32 acc) (hacc:acc < 2 ^ 28) (hv:jz_ w S v r) (hi:r.src[4]?=some b) (hn:n + 7<=a.tmps.size) (h4n:5 < n)
  (h:∀ a',Pv 4 0 0 n a a'->a'.get 4=.int .u32 ((b.toNat % 16 * 2 ^ 28 + acc:Nat):Int)->KK a' w):NWP P (uLast K n).1 (Exit.then KK Q) a w:=by
 have hb:=UInt8.toNat_lt b
 refine qj_ (qd_ ?_)
 rw [qb_,h4]
 refine wl_uIdx kt (by rw [gpo (by omega)];exact h0) hv hi (by simp only [qa_];omega) fun a1 hp1 hg1=>?_
 have hs1:=hp1.size
 rw [qa_] at hs1
 have hgn:a1.get n=.int .u32 acc:=by rw [hp1.get n (by omega) (.inr ⟨by omega,by omega⟩),gpe (by omega)]
 have hp:Pv 4 0 0 n a a1:=((Pv.refl 4 0 0 n a).put (.int .u32 acc) (by omega)).trans ⟨hp1.size,hp1.defers,fun s hs hh=>hp1.get s (by omega) (.inr ⟨by omega,by omega⟩)⟩
 refine qw_ (k:=.u8) (k':=.u32) (by rw [qb_];exact hg1) kt.dU8 kt.dU32 ?_
 rw [uk_wrap (.inr (.inl rfl)) (by simp [IntKind.bits];omega)]
 refine qn_ (v:=.int .u32 ((b.toNat % 16 * 2 ^ 28:Nat):Int)) (w':=w) ?_ ?_
 ·have e1:∀ B:Act,B.eval (ki .u64 28)=.int .u64 28:=fun _=>rfl
  have e2:(a1.put (some (n + 4)) (.int .u32 (b.toNat:Int))).eval (tm (n + 4))=.int .u32 (b.toNat:Int):=by rw [qb_,gpe (by omega)]
  have hr:=run_shl28 (P:=P) (A:=K.tU32) (b:=b.toNat) w
  have hg:(eqGuard .shl K.tU32 (tm (n + 4)) (ki .u64 28) (.int .u32 (b.toNat:Int)) (.int .u64 28)).run P w=.ok () w:=by simp [eqGuard]
  simp only [execOp,mk,e1,e2,Sem.run_bind,hg,Result.andThen_ok,hr,Sem.run_pure]
 refine zk_ (k:=.u32) (m:=(acc:Int)) (n:=((b.toNat % 16 * 2 ^ 28:Nat):Int)) (by rw [qb_,gpo (by omega),gpo (by omega)];exact hgn) (by rw [qb_,gpe (by simp only [qa_];omega)]) (by simp)
  (run_or28 hacc (by omega) w) ?_
 refine qg_ (wpList_nil ?_)
 rw [qb_,gpe (by simp only [qa_];omega)]
 exact h _ ((((hp.put _ (by omega)).put _ (by omega)).put _ (by omega)).put _ (by omega)) (gpe (by simp only [qa_];omega))
theorem u_end (kt:KT P g K) {acc:Nat} {b:UInt8} (h0:a.get 0=v) (h4:a.get 4=.int .u32 acc) (hv:jz_ w S v r) (hi:r.src[4]?=some b) (hn:n + 6<=a.tmps.size) (h4n:4 < n)
  (hret:b.toNat<=15->∀ a',a'.defers=a.defers->a'.get 2=.int .u32 acc->a'.get 3=.int .i64 5->Q .ret a' w) (hok:¬ b.toNat<=15->∀ a',Pv n 0 0 n a a'->Q .normal a' w):NWP P (uEnd K n).1 Q a w:=by
 have key:∀ (c:Bool) (K':Act->World->Prop),c=decide ((b.toNat:Int)<=15)->(∀ a',a'.eval (tm (n + 3))=.bool c->Pv n 0 0 n a a'->K' a' w) ->
   wpList P (uIdx K 4 n++[mk (some (n + 3)) (.binOp .leq K.tU8 (tm (n + 2)) (ki .u8 15) 0)]).toArray (Exit.then K' Q) (uIdx K 4 n++[mk (some (n + 3)) (.binOp .leq K.tU8 (tm (n + 2)) (ki .u8 15) 0)]) a w:=by
  intro c K' hc hK
  refine wl_uIdx kt h0 hv hi (by omega) fun a1 hp1 hg1=>?_
  have hs1:=hp1.size
  refine q9_ (b:=c) (p:=(b.toNat:Int)) (q:=15) (k:=.u8) (by rw [qb_];exact hg1) rfl (.inr (.inl ⟨rfl,hc⟩)) (wpList_nil (hK _ (by rw [qb_,gpe (by omega)]) (hp1.put _ (by omega))))
 by_cases hlt:b.toNat<=15
 ·refine z3_ (key true _ (by simp;omega) fun a' he hp=>⟨he,?_⟩)
  exact u_ret ((hp.get 4 (by omega) (.inr ⟨by omega,by omega⟩)).trans h4) (by have:=hp.size;omega) (by omega) fun a2 hd hg2 hg3=>hret hlt a2 (hd.trans hp.defers) hg2 hg3
 ·exact z2_ (key false _ (by simp;omega) fun a' he hp=>⟨he,.skip (hok hlt a' hp)⟩)
def UvRes (src:Bs) (a:Act):Prop:=a.defers=[]/\a.get 2=.int .u32 ((q6_ src).1:Int)/\a.get 3=.int .i64 (q6_ src).2
structure US (v:Value) (ntmps acc:Nat) (a:Act):Prop where
 g0:a.get 0=v
 g4:a.get 4=.int .u32 acc
 g5:a.get 5=.int .i64 0
 size:a.tmps.size=ntmps
 defers:a.defers=[]
theorem US.pv {v:Value} {ntmps acc:Nat} {a a':Act} {n:Nat} (h:US v ntmps acc a) (hp:Pv n 0 0 n a a') (hn:5 < n):US v ntmps acc a':=
 ⟨(hp.get 0 (by omega) (.inr ⟨by omega,by omega⟩)).trans h.g0,(hp.get 4 (by omega) (.inr ⟨by omega,by omega⟩)).trans h.g4,(hp.get 5 (by omega) (.inr ⟨by omega,by omega⟩)).trans h.g5,hp.size.trans h.size,hp.defers.trans h.defers⟩
theorem US.next {v:Value} {ntmps acc acc':Nat} {a a':Act} {n:Nat} (h:US v ntmps acc a) (hp:Pv 4 0 0 n a a') (hn:5 < n) (h4:a'.get 4=.int .u32 acc'):US v ntmps acc' a':=
 ⟨(hp.get 0 (by omega) (.inr ⟨by omega,by omega⟩)).trans h.g0,h4,(hp.get 5 (by omega) (.inr ⟨by omega,by omega⟩)).trans h.g5,hp.size.trans h.size,hp.defers.trans h.defers⟩
def uTail:List GC:=[qu_ 1 fun n=>[mk (some n) (.move (tm 5)),mk (some 2) (.assign (ki .u32 0)),mk (some 3) (.assign (tm n))],q3_ .ret]
theorem u_tail {x:Int} {J:Act->World->Prop} {E:Act->World->Prop} (h5:a.get 5=.int .i64 x) (hn:n + 1<=a.tmps.size) (h5n:5 < n) (h:∀ a',a'.defers=a.defers->a'.get 2=.int .u32 0->a'.get 3=.int .i64 x->E a' w) :
  LW P uTail n (Exit.jump 0 J (Rt (fun _ _=>False) E)) a w:=by
 refine qc_ (qj_ (qd_ (qg_ (qg_ (wpList_nil (qc_ (.ret (h _ (by simp only [qf_]) ?_ ?_))))))))
 ·rw [gpo (by omega),gpe (by simp only [qa_];omega)];rfl
 ·rw [gpe (by simp only [qa_];omega),qb_,gpo (by omega),gpe (by omega),qb_,h5]
theorem uvIn_code (K:Kn):findLabel (sq (gL (uAll K) 6).1) 0=some (.seq .skip (sq (gL uTail 86).1)):=rfl
theorem uvIn_calls (kt:KT P g K) {f ntmps:Nat} (hfn:FnIs P f ntmps [2,3] (cUvIn K)) (hnt:87<=ntmps) (hv:jz_ w S v r):Calls P f #[v] w fun e w'=>e=.returned (.tuple #[.int .u32 ((q6_ r.src).1:Int),.int .i64 (q6_ r.src).2])/\w'=w:=by
 refine hfn.calls kt.mixed (by simp) ?_
 refine rt_mono (K:=fun _ _=>False) (E:=fun a' w'=>UvRes r.src a'/\w'=w) ?_ (fun _ _ h=>h.elim) (fun a' w' h=>⟨h.1.1,by simp only [zl_];rw [show ([2,3]:List Nat).map a'.get=[a'.get 2,a'.get 3] from rfl,h.1.2.1,h.1.2.2],h.2⟩)
 have hsz:=jo_ #[v] ntmps (by show 1<=ntmps;omega)
 have hg0:({ tmps:=#[v]++Array.replicate (ntmps - (#[v]:Array Value).size) undef,defers:=[] }:Act).get 0=v:=by rw [ja_ _ _ _ (by simp)];rfl
 have hd0:({ tmps:=#[v]++Array.replicate (ntmps - (#[v]:Array Value).size) undef,defers:=[] }:Act).defers=[]:=rfl
 have hsz':({ tmps:=#[v]++Array.replicate (ntmps - (#[v]:Array Value).size) undef,defers:=[] }:Act).tmps.size=ntmps:=hsz
 generalize ({ tmps:=#[v]++Array.replicate (ntmps - (#[v]:Array Value).size) undef,defers:=[] }:Act)=a at hg0 hd0 hsz' ⊢
 refine .seq (R:=Rt (fun a' w'=>a'.get 0=v/\a'.tmps.size=ntmps/\a'.defers=[]/\w'=w) (fun _ _=>False)) (.reg (qg_ (qg_ (wpList_nil ⟨?_,?_,?_,rfl⟩)))) (fun a1 w1 hh=>?_) (fun e a w he hq=>by cases e <;> first | exact absurd rfl he | exact hq.elim)
 ·rw [gpo (by omega),gpo (by omega)];exact hg0
 ·simp only [qa_];exact hsz'
 ·simp only [qf_];exact hd0
 obtain ⟨hg1,hs1,hd1,rfl⟩:=hh
 refine .scope 0 (fun a' w'=>a'.get 5=.int .i64 0/\a'.tmps.size=ntmps/\a'.defers=[]/\q6_ r.src=(0,0)/\w'=w1) (fun _ _=>0) (uvIn_code K) ?_ (fun a' w' hJ=>?_)
 ·show LW P (uAll K) 6 (Exit.jump 0 (fun a' w'=>a'.get 5=.int .i64 0/\a'.tmps.size=ntmps/\a'.defers=[]/\q6_ r.src=(0,0)/\w'=w1) (Rt (fun _ _=>False) (fun a' w'=>UvRes r.src a'/\w'=w1))) a1 w1
  refine qc_ (xa_ (x:=4) (m:=0) (k0:=0) (.inl rfl) (by omega) fun a2 hp2 hg42=>?_)
  refine qc_ (xa_ (x:=5) (m:=0) (k0:=0) (.inl rfl) (by have:=hp2.size;omega) fun a3 hp3 hg53=>?_)
  have hU:US v ntmps 0 a3:=⟨(hp3.get 0 (by omega) (.inr ⟨by omega,by simp [ji_,qu_]⟩)).trans ((hp2.get 0 (by omega) (.inr ⟨by omega,by omega⟩)).trans hg1),(hp3.get 4 (by omega) (.inr ⟨by omega,by simp [ji_,qu_]⟩)).trans hg42,hg53,hp3.size.trans (hp2.size.trans hs1),hp3.defers.trans (hp2.defers.trans hd1)⟩
  rw [show (ji_ 5 (.int .i64 0) (ji_ 4 (.int .u32 0) 6).2).2=6 from rfl]
  refine qc_ (u_short (n:=6) kt hU.g0 hv (by have:=hU.size;omega) (fun hlt a' hp=>⟨rfl,(hU.pv hp (by omega)).g5,(hU.pv hp (by omega)).size,(hU.pv hp (by omega)).defers,?_,rfl⟩) (fun hle a4 hp4=>?_))
  ·have:r.src=[]:=by cases hh:r.src with | nil=>rfl | cons b t=>rw [hh] at hlt;simp at hlt
   rw [this];rfl
  have hU4:=hU.pv hp4 (by omega)
  obtain ⟨b0,t0,hs0⟩:=uncons1 hle
  have hb0:=UInt8.toNat_lt b0
  rw [show (uShort K 1 6).2=9 from rfl]
  refine qc_ (u_first (n:=9) (b:=b0) kt hU4.g0 hv (by rw [hs0];rfl) (by have:=hU4.size;omega) (by omega) fun a5 hp5 hg5=>?_)
  have hU5:=hU4.next hp5 (by omega) hg5
  rw [show (uFirst K 9).2=14 from rfl]
  refine qc_ (u_test (n:=14) (i:=0) (b:=b0) kt hU5.g0 hU5.g4 hv (by rw [hs0];rfl) (by have:=hU5.size;omega) (by omega) (fun hlt a' hd' h2' h3'=>⟨⟨hd'.trans hU5.defers,?_,?_⟩,rfl⟩) (fun hge hlt a' hp=>⟨rfl,(hU5.pv hp (by omega)).g5,(hU5.pv hp (by omega)).size,(hU5.pv hp (by omega)).defers,?_,rfl⟩) (fun hge0 hle0 c0 hq0=>?_))
  ·rw [h2',hs0];simp only [q6_, hlt,if_true];congr 2;omega
  ·rw [h3',hs0];simp only [q6_, hlt,if_true];rfl
  ·have ht:t0=[]:=by cases hh:t0 with | nil=>rfl | cons b t=>rw [hs0,hh] at hlt;simp only [List.length_cons] at hlt;omega
   rw [hs0,ht];simp only [q6_,show ¬ b0.toNat < 128 by omega,if_false]
  obtain ⟨b1,t1,ht0⟩:=uncons1 (show 1<=t0.length by rw [hs0] at hle0;simp at hle0;omega)
  have hs1:r.src=b0 :: b1 :: t1:=by rw [hs0,ht0]
  have hb1:=UInt8.toNat_lt b1
  have hV0:=hU5.pv hq0 (by omega)
  rw [show (uTest K 0 14).2=23 from rfl]
  refine qc_ (u_next (n:=23) (i:=1) (s:=7) (acc:=b0.toNat % 128) (b:=b1) kt hV0.g0 hV0.g4 (by omega) (by omega) hv (by rw [hs1];rfl) (by have:=hV0.size;omega) (by omega) fun d0 hr0 hg10=>?_)
  have hW0:=hV0.next hr0 (by omega) hg10
  rw [show (uNext K 1 7 23).2=31 from rfl]
  refine qc_ (u_test (n:=31) (i:=1) (b:=b1) kt hW0.g0 hW0.g4 hv (by rw [hs1];rfl) (by have:=hW0.size;omega) (by omega) (fun hlt a' hd' h2' h3'=>⟨⟨hd'.trans hW0.defers,?_,?_⟩,rfl⟩) (fun hge hlt a' hp=>⟨rfl,(hW0.pv hp (by omega)).g5,(hW0.pv hp (by omega)).size,(hW0.pv hp (by omega)).defers,?_,rfl⟩) (fun hge1 hle1 c1 hq1=>?_))
  ·rw [h2',hs1];simp only [q6_,show ¬ b0.toNat < 128 by omega,hlt,if_true,if_false];congr 2;omega
  ·rw [h3',hs1];simp only [q6_,show ¬ b0.toNat < 128 by omega,hlt,if_true,if_false];rfl
  ·have ht:t1=[]:=by cases hh:t1 with | nil=>rfl | cons b t=>rw [hs1,hh] at hlt;simp only [List.length_cons] at hlt;omega
   rw [hs1,ht];simp only [q6_,show ¬ b0.toNat < 128 by omega,show ¬ b1.toNat < 128 by omega,if_false]
  obtain ⟨b2,t2,ht1⟩:=uncons1 (show 1<=t1.length by rw [hs1] at hle1;simp at hle1;omega)
  have hs2:r.src=b0 :: b1 :: b2 :: t2:=by rw [hs1,ht1]
  have hb2:=UInt8.toNat_lt b2
  have hV1:=hW0.pv hq1 (by omega)
  rw [show (uTest K 1 31).2=40 from rfl]
  refine qc_ (u_next (n:=40) (i:=2) (s:=14) (acc:=(b1.toNat % 128 * 2 ^ 7 + b0.toNat % 128)) (b:=b2) kt hV1.g0 hV1.g4 (by omega) (by omega) hv (by rw [hs2];rfl) (by have:=hV1.size;omega) (by omega) fun d1 hr1 hg11=>?_)
  have hW1:=hV1.next hr1 (by omega) hg11
  rw [show (uNext K 2 14 40).2=48 from rfl]
  refine qc_ (u_test (n:=48) (i:=2) (b:=b2) kt hW1.g0 hW1.g4 hv (by rw [hs2];rfl) (by have:=hW1.size;omega) (by omega) (fun hlt a' hd' h2' h3'=>⟨⟨hd'.trans hW1.defers,?_,?_⟩,rfl⟩) (fun hge hlt a' hp=>⟨rfl,(hW1.pv hp (by omega)).g5,(hW1.pv hp (by omega)).size,(hW1.pv hp (by omega)).defers,?_,rfl⟩) (fun hge2 hle2 c2 hq2=>?_))
  ·rw [h2',hs2];simp only [q6_,show ¬ b0.toNat < 128 by omega,show ¬ b1.toNat < 128 by omega,hlt,if_true,if_false];congr 2;omega
  ·rw [h3',hs2];simp only [q6_,show ¬ b0.toNat < 128 by omega,show ¬ b1.toNat < 128 by omega,hlt,if_true,if_false];rfl
  ·have ht:t2=[]:=by cases hh:t2 with | nil=>rfl | cons b t=>rw [hs2,hh] at hlt;simp only [List.length_cons] at hlt;omega
   rw [hs2,ht];simp only [q6_,show ¬ b0.toNat < 128 by omega,show ¬ b1.toNat < 128 by omega,show ¬ b2.toNat < 128 by omega,if_false]
  obtain ⟨b3,t3,ht2⟩:=uncons1 (show 1<=t2.length by rw [hs2] at hle2;simp at hle2;omega)
  have hs3:r.src=b0 :: b1 :: b2 :: b3 :: t3:=by rw [hs2,ht2]
  have hb3:=UInt8.toNat_lt b3
  have hV2:=hW1.pv hq2 (by omega)
  rw [show (uTest K 2 48).2=57 from rfl]
  refine qc_ (u_next (n:=57) (i:=3) (s:=21) (acc:=(b2.toNat % 128 * 2 ^ 14 + (b1.toNat % 128 * 2 ^ 7 + b0.toNat % 128))) (b:=b3) kt hV2.g0 hV2.g4 (by omega) (by omega) hv (by rw [hs3];rfl) (by have:=hV2.size;omega) (by omega) fun d2 hr2 hg12=>?_)
  have hW2:=hV2.next hr2 (by omega) hg12
  rw [show (uNext K 3 21 57).2=65 from rfl]
  refine qc_ (u_test (n:=65) (i:=3) (b:=b3) kt hW2.g0 hW2.g4 hv (by rw [hs3];rfl) (by have:=hW2.size;omega) (by omega) (fun hlt a' hd' h2' h3'=>⟨⟨hd'.trans hW2.defers,?_,?_⟩,rfl⟩) (fun hge hlt a' hp=>⟨rfl,(hW2.pv hp (by omega)).g5,(hW2.pv hp (by omega)).size,(hW2.pv hp (by omega)).defers,?_,rfl⟩) (fun hge3 hle3 c3 hq3=>?_))
  ·rw [h2',hs3];simp only [q6_,show ¬ b0.toNat < 128 by omega,show ¬ b1.toNat < 128 by omega,show ¬ b2.toNat < 128 by omega,hlt,if_true,if_false];congr 2;omega
  ·rw [h3',hs3];simp only [q6_,show ¬ b0.toNat < 128 by omega,show ¬ b1.toNat < 128 by omega,show ¬ b2.toNat < 128 by omega,hlt,if_true,if_false];rfl
  ·have ht:t3=[]:=by cases hh:t3 with | nil=>rfl | cons b t=>rw [hs3,hh] at hlt;simp only [List.length_cons] at hlt;omega
   rw [hs3,ht];simp only [q6_,show ¬ b0.toNat < 128 by omega,show ¬ b1.toNat < 128 by omega,show ¬ b2.toNat < 128 by omega,show ¬ b3.toNat < 128 by omega,if_false]
  obtain ⟨b4,t4,ht3⟩:=uncons1 (show 1<=t3.length by rw [hs3] at hle3;simp at hle3;omega)
  have hs4:r.src=b0 :: b1 :: b2 :: b3 :: b4 :: t4:=by rw [hs3,ht3]
  have hb4:=UInt8.toNat_lt b4
  have hV3:=hW2.pv hq3 (by omega)
  rw [show (uTest K 3 65).2=74 from rfl]
  refine qc_ (u_last (n:=74) (acc:=(b3.toNat % 128 * 2 ^ 21 + (b2.toNat % 128 * 2 ^ 14 + (b1.toNat % 128 * 2 ^ 7 + b0.toNat % 128)))) (b:=b4) kt hV3.g0 hV3.g4 (by omega) hv (by rw [hs4];rfl) (by have:=hV3.size;omega) (by omega) fun d3 hr3 hg13=>?_)
  have hW3:=hV3.next hr3 (by omega) hg13
  rw [show (uLast K 74).2=81 from rfl]
  refine qc_ (u_end (n:=81) (b:=b4) kt hW3.g0 hW3.g4 hv (by rw [hs4];rfl) (by have:=hW3.size;omega) (by omega) (fun hlt a' hd' h2' h3'=>⟨⟨hd'.trans hW3.defers,?_,?_⟩,rfl⟩) (fun hgt e1 hq4=>?_))
  ·rw [h2',hs4];simp only [q6_,show ¬ b0.toNat < 128 by omega,show ¬ b1.toNat < 128 by omega,show ¬ b2.toNat < 128 by omega,show ¬ b3.toNat < 128 by omega,hlt,if_true,if_false];congr 2;omega
  ·rw [h3',hs4];simp only [q6_,show ¬ b0.toNat < 128 by omega,show ¬ b1.toNat < 128 by omega,show ¬ b2.toNat < 128 by omega,show ¬ b3.toNat < 128 by omega,hlt,if_true,if_false]
  have hV4:=hW3.pv hq4 (by omega)
  rw [show (uEnd K 81).2=86 from rfl]
  refine qc_ (xa_ (x:=5) (m:=0) (k0:=0) (.inl rfl) (by have:=hV4.size;omega) fun e2 hr4 hg54=>qc_ (.label ?_))
  rw [show (q3_ (.label 0) (ji_ 5 (.int .i64 (-5)) 86).2).2=86 from rfl]
  refine u_tail (x:=-5) hg54 (by have:=hr4.size;have:=hV4.size;omega) (by omega) fun e3 hd3 h23 h33=>⟨⟨hd3.trans (hr4.defers.trans hV4.defers),?_,?_⟩,rfl⟩
  ·rw [h23,hs4];simp only [q6_,show ¬ b0.toNat < 128 by omega,show ¬ b1.toNat < 128 by omega,show ¬ b2.toNat < 128 by omega,show ¬ b3.toNat < 128 by omega,hgt,if_false];rfl
  ·rw [h33,hs4];simp only [q6_,show ¬ b0.toNat < 128 by omega,show ¬ b1.toNat < 128 by omega,show ¬ b2.toNat < 128 by omega,show ¬ b3.toNat < 128 by omega,hgt,if_false]
 ·obtain ⟨h5,hs,hd,hu,rfl⟩:=hJ
  refine .seq (R:=Rt (fun a'' w''=>a''=a'/\w''=w') (fun _ _=>False)) (.skip ⟨rfl,rfl⟩) (fun a2 w2 hh=>?_) (fun e a w he hq=>by cases e <;> first | exact absurd rfl he | exact hq.elim)
  obtain ⟨rfl,rfl⟩:=hh
  exact u_tail h5 (by omega) (by omega) fun a3 hd3 h2 h3=>⟨⟨hd3.trans hd,by rw [h2,hu];rfl,by rw [h3,hu]⟩,rfl⟩
end
theorem uvRead_len (l:Bs):(q6_ l).2<=(l.length:Int):=by
 unfold q6_
 split
 ·simp
 ·split
  ·simp only [List.length_cons];omega
  ·split
   ·simp
   ·split
    ·simp only [List.length_cons];omega
    ·split
     ·simp
     ·split
      ·simp only [List.length_cons];omega
      ·split
       ·simp
       ·split
        ·simp only [List.length_cons];omega
        ·split
         ·simp
         ·split
          ·simp only [List.length_cons];omega
          ·simp only [List.length_cons];omega
section
variable {P:Program} {g:G} {K:Kn} {T S R:Nat} {r:RS} {w:World}
theorem uv_calls (kt:KT P g K) {f ntmps nIn:Nat} (hIn:FnIs P K.fUv nIn [2,3] (cUvIn K)) (hnIn:87<=nIn) (hfn:FnIs P f ntmps [2] (cUv K)) (hnt:31<=ntmps) (hR:RdS w T S R r) (hRS:S ≠ R) :
  Calls P f #[pt R 0] w fun e w'=>e=.returned (.int .u32 (rUv r).1)/\RdS w' T S R (rUv r).2/\Keeps (·=R) w w':=by
 refine calls1 kt.mixed hfn (by omega) fun a h0 hs hd=>?_
 obtain ⟨v,hv⟩:=hR
 refine qc_ (xa_ (x:=2) (m:=0) (k0:=0) (.inl rfl) (by omega) fun a1 hp1 _=>?_)
 have hs1:=hp1.size
 rw [show (ji_ 2 (.int .u32 0) 6).2=6 from rfl]
 refine qc_ (qj_ (wl_src kt (get0 hp1 h0 (by omega) (by omega)) hv (by omega) fun a2 hp2 hg2=>?_))
 have hs2:=hp2.size
 refine qv_ (vs:=#[v]) hIn.ent (by simp [qb_,hg2]) (uvIn_calls kt hIn hnIn hv.2) fun e w' hR2=>?_
 obtain ⟨he,rfl⟩:=hR2
 refine ⟨_,he,?_⟩
 generalize hx:(q6_ r.src).1=x
 generalize hy:(q6_ r.src).2=y
 refine qd_ ?_
 rw [qb_,gpe (by omega)]
 refine qn_ (v:=.int .u32 (x:Int)) (w':=w') ?_ ?_
 ·have:((a2.put (some (6 + 4)) (.tuple #[.int .u32 (x:Int),.int .i64 y])).put (some 5) (.tuple #[.int .u32 (x:Int),.int .i64 y])).eval (tm 5)=.tuple #[.int .u32 (x:Int),.int .i64 y]:=by rw [qb_,gpe (by simp only [qa_];omega)]
  simp [execOp,mk,this,Instr.extract]
 refine qn_ (v:=.int .i64 y) (w':=w') ?_ ?_
 ·have:(((a2.put (some (6 + 4)) (.tuple #[.int .u32 (x:Int),.int .i64 y])).put (some 5) (.tuple #[.int .u32 (x:Int),.int .i64 y])).put (some (6 + 5)) (.int .u32 (x:Int))).eval (tm 5)=.tuple #[.int .u32 (x:Int),.int .i64 y]:=by rw [qb_,gpo (by omega),gpe (by simp only [qa_];omega)]
  simp [execOp,mk,this,Instr.extract]
 refine qg_ (qg_ (wpList_nil ?_))
 rw [qb_,gpo (by omega),gpe (by simp only [qa_];omega),qb_,gpo (by omega),gpe (by simp only [qa_];omega)]
 have e0:((((((a2.put (some (6 + 4)) (.tuple #[.int .u32 (x:Int),.int .i64 y])).put (some 5) (.tuple #[.int .u32 (x:Int),.int .i64 y])).put (some (6 + 5)) (.int .u32 (x:Int))).put (some (6 + 6)) (.int .i64 y)).put (some 3) (.int .u32 (x:Int))).put (some 4) (.int .i64 y)).get 0=pt R 0:=by
  rw [gpo (by omega),gpo (by omega),gpo (by omega),gpo (by omega),gpo (by omega),gpo (by omega)]
  exact get0 hp2 (get0 hp1 h0 (by omega) (by omega)) (by omega) (by omega)
 have e3:((((((a2.put (some (6 + 4)) (.tuple #[.int .u32 (x:Int),.int .i64 y])).put (some 5) (.tuple #[.int .u32 (x:Int),.int .i64 y])).put (some (6 + 5)) (.int .u32 (x:Int))).put (some (6 + 6)) (.int .i64 y)).put (some 3) (.int .u32 (x:Int))).put (some 4) (.int .i64 y)).get 3=.int .u32 (x:Int):=by
  rw [gpo (by omega),gpe (by simp only [qa_];omega)]
 have e4:((((((a2.put (some (6 + 4)) (.tuple #[.int .u32 (x:Int),.int .i64 y])).put (some 5) (.tuple #[.int .u32 (x:Int),.int .i64 y])).put (some (6 + 5)) (.int .u32 (x:Int))).put (some (6 + 6)) (.int .i64 y)).put (some 3) (.int .u32 (x:Int))).put (some 4) (.int .i64 y)).get 4=.int .i64 y:=gpe (by simp only [qa_];omega)
 have es:((((((a2.put (some (6 + 4)) (.tuple #[.int .u32 (x:Int),.int .i64 y])).put (some 5) (.tuple #[.int .u32 (x:Int),.int .i64 y])).put (some (6 + 5)) (.int .u32 (x:Int))).put (some (6 + 6)) (.int .i64 y)).put (some 3) (.int .u32 (x:Int))).put (some 4) (.int .i64 y)).tmps.size=ntmps:=by simp only [qa_];omega
 have ed:((((((a2.put (some (6 + 4)) (.tuple #[.int .u32 (x:Int),.int .i64 y])).put (some 5) (.tuple #[.int .u32 (x:Int),.int .i64 y])).put (some (6 + 5)) (.int .u32 (x:Int))).put (some (6 + 6)) (.int .i64 y)).put (some 3) (.int .u32 (x:Int))).put (some 4) (.int .i64 y)).defers=[]:=by
  simp only [qf_];rw [hp2.defers,hp1.defers];exact hd
 generalize ((((((a2.put (some (6 + 4)) (.tuple #[.int .u32 (x:Int),.int .i64 y])).put (some 5) (.tuple #[.int .u32 (x:Int),.int .i64 y])).put (some (6 + 5)) (.int .u32 (x:Int))).put (some (6 + 6)) (.int .i64 y)).put (some 3) (.int .u32 (x:Int))).put (some 4) (.int .i64 y))=a3 at e0 e3 e4 es ed ⊢
 show LW P [gIf 1 2 (fun n=>[mk (some n) (.move (tm 4)),mk (some (n + 1)) (.binOp .leq K.tInt (tm n) (ki .i64 0) 0)]) (kFail K (.int .u32 0)) jk_,kAdvS K 4,jf_ 3 2,q3_ .ret] 13 _ a3 w'
 refine qc_ ?_
 rw [qr_]
 have key:∀ (b:Bool) (K':Act->World->Prop) (Q':Exit->Act->World->Prop),b=decide (y<=0)->(∀ a',a'.eval (tm (13 + 1))=.bool b->Pv 13 0 0 13 a3 a'->K' a' w') ->
   wpList P [mk (some 13) (.move (tm 4)),mk (some (13 + 1)) (.binOp .leq K.tInt (tm 13) (ki .i64 0) 0)].toArray (Exit.then K' Q') [mk (some 13) (.move (tm 4)),mk (some (13 + 1)) (.binOp .leq K.tInt (tm 13) (ki .i64 0) 0)] a3 w':=by
  intro b K' Q' hb hK
  refine qd_ ?_
  rw [qb_,e4]
  refine q9_ (b:=b) (p:=y) (q:=0) (k:=.i64) (by rw [qb_,gpe (by omega)]) rfl (.inr (.inl ⟨rfl,hb⟩)) (wpList_nil (hK _ ?_ (((Pv.refl _ _ _ _ _).put _ (by omega)).put _ (by omega))))
  rw [qb_,gpe (by simp only [qa_];omega)]
 by_cases hle:y<=0
 ·have hr:rUv r=(0,.fail):=by simp only [rUv,hy,hle,if_true]
  rw [hr]
  refine z3_ (key true _ _ (by simp [hle]) fun a' he hp=>⟨he,?_⟩)
  have hs':=hp.size
  exact k_fail kt ((hp.get 0 (by omega) (.inr ⟨by omega,by omega⟩)).trans e0) hv hRS (by omega) (by omega) fun a4 w4 hd4 hg4 hrd4 hk4=>⟨hd4.trans (hp.defers.trans ed),by rw [hg4];rfl,hrd4,hk4⟩
 ·have hr:rUv r=(x,⟨r.src.drop y.toNat,r.bad,r.nl⟩):=by simp only [rUv,hy,hx,hle,if_false]
  rw [hr]
  have hlen:=uvRead_len r.src
  rw [hy] at hlen
  obtain ⟨k,rfl⟩:∃ k:Nat,y=(k:Int):=⟨y.toNat,by omega⟩
  refine z2_ (key false _ _ (by simp;omega) fun a' he hp=>⟨he,.skip ?_⟩)
  have hs':=hp.size
  show LW P [kAdvS K 4,jf_ 3 2,q3_ .ret] 21 _ a' w'
  refine qc_ (k_advS kt (k:=k) (l:=4) ((hp.get 0 (by omega) (.inr ⟨by omega,by omega⟩)).trans e0) ((hp.get 4 (by omega) (.inr ⟨by omega,by omega⟩)).trans e4) hv (by omega) hRS (by omega) (by omega) (by omega) fun a5 hp5 hrd5=>?_)
  have hs5:=hp5.size
  rw [show (kAdvS K 4 21).2=30 from rfl]
  refine qc_ (s_move (x:=2) (m:=0) (k0:=0) (.inl rfl) (Nat.le_refl _) (by omega) (by omega) (by omega) fun a6 hp6 hg6=>qc_ (.ret ⟨?_,?_,?_,Keeps.setRow (fun k=>k=R) _ _ _ rfl⟩))
  ·rw [hp6.defers,hp5.defers,hp.defers];exact ed
  ·rw [hg6,hp5.get 3 (by omega) (.inr ⟨by omega,by omega⟩),hp.get 3 (by omega) (.inr ⟨by omega,by omega⟩),e3]
  ·simpa using hrd5
end
theorem entry_inj {e e':jd_} (h:e.entry=e'.entry):e=e':=by
 obtain ⟨k,v,b⟩:=e
 obtain ⟨k',v',b'⟩:=e'
 simp only [jd_.entry,MapEntry.mk.injEq,Value.int.injEq,true_and] at h
 obtain ⟨h1,h2,h3⟩:=h
 have:k=k':=by omega
 subst this h2 h3
 rfl
theorem entries_inj:∀ {l l':List jd_},l.map jd_.entry=l'.map jd_.entry->l=l'
 | [],[],_=>rfl
 | [],_ :: _,h=>by simp at h
 | _ :: _,[],h=>by simp at h
 | e :: l,e' :: l',h=>by
  simp only [List.map_cons,List.cons.injEq] at h
  rw [entry_inj h.1,entries_inj h.2]
section
variable {w w':World} {X:Nat->Prop} {r key:Nat} {t:List (Nat × Bs)} {value:Value} {l:Bs} {es:List jd_} {clock:Nat}
theorem mapIs_push (h:MapIs w X r t) (hb:w.heap[r]?=some (.map (es.map jd_.entry).toArray clock)) (hnew:∀ e ∈ es,e.key ≠ key) (hk:key < 4294967296) (hv:SlRp w (fun k=>X k \/ k=r) value l) (hkeep:Keeps (·=r) w w')
  (hb':w'.heap[r]?=some (.map ((es++[(⟨key,value,clock⟩:jd_)]).map jd_.entry).toArray (clock + 1))):MapIs w' X r (jg_ key l t):=by
 obtain ⟨es2,c2,f,h1,h2,h3,h4,h5,h6⟩:=h
 rw [hb] at h1
 simp only [Option.some.injEq,Obj.map.injEq] at h1
 obtain ⟨he,rfl⟩:=h1
 have he':=entries_inj (by simpa using congrArg Array.toList he)
 subst he'
 have hkX:Keeps (fun k=>X k \/ k=r) w w':=hkeep.mono fun _ _ h=>.inr h
 have hne:∀ e ∈ es,¬ e.born=clock:=fun e hm hh=>by have:=(h2 e hm).2.1;omega
 refine ⟨es++[⟨key,value,clock⟩],clock + 1,fun e=>if e.born=clock then l else f e,hb',fun e hm=>?_,?_,?_,?_,xg_ _ _ _ h6⟩
 ·rcases List.mem_append.1 hm with hm | hm
  ·obtain ⟨e1,e2,e3⟩:=h2 e hm
   refine ⟨e1,by omega,?_⟩
   show SlRp w' _ e.val (if e.born=clock then l else f e)
   rw [if_neg (hne e hm)]
   exact e3.keep hkX
  ·obtain rfl:=List.mem_singleton.1 hm
   exact ⟨hk,by simp,by simpa using hv.keep hkX⟩
 ·rw [List.map_append,List.nodup_append]
  exact ⟨h3,by simp,fun a ha b hb2=>by
   obtain ⟨e,hm,rfl⟩:=List.mem_map.1 ha
   simp at hb2
   have:=(h2 e hm).2.1
   omega⟩
 ·rw [List.map_append,List.nodup_append]
  exact ⟨h4,by simp,fun a ha b hb2=>by
   obtain ⟨e,hm,rfl⟩:=List.mem_map.1 ha
   simp at hb2
   rw [hb2]
   exact hnew e hm⟩
 ·have hmap:(es++[(⟨key,value,clock⟩:jd_)]).map (fun e=>(e.key,if e.born=clock then l else f e))=es.map (fun e=>(e.key,f e))++[(key,l)]:=by
   rw [List.map_append]
   congr 1
   ·exact List.map_congr_left fun e hm=>by rw [if_neg (hne e hm)]
   ·simp
  rw [hmap]
  refine List.Perm.trans (List.perm_append_comm) ?_
  refine List.Perm.trans (List.Perm.cons (key,l) h5) (List.Perm.symm (setTag_new key l t fun y hy=>?_))
  obtain ⟨e,hm,hy2⟩:=List.mem_map.1 (h5.symm.subset hy)
  rw [<- hy2]
  exact hnew e hm
theorem mapIs_mod {j:Nat} {e0:jd_} (h:MapIs w X r t) (hb:w.heap[r]?=some (.map (es.map jd_.entry).toArray clock)) (hj:es[j]?=some e0) (hk0:e0.key=key) (hk:key < 4294967296) (hv:SlRp w (fun k=>X k \/ k=r) value l) (hkeep:Keeps (·=r) w w')
  (hb':w'.heap[r]?=some (.map ((es.set j (⟨key,value,e0.born⟩:jd_)).map jd_.entry).toArray clock)):MapIs w' X r (jg_ key l t):=by
 obtain ⟨es2,c2,f,h1,h2,h3,h4,h5,h6⟩:=h
 rw [hb] at h1
 simp only [Option.some.injEq,Obj.map.injEq] at h1
 obtain ⟨he,rfl⟩:=h1
 have he':=entries_inj (by simpa using congrArg Array.toList he)
 subst he'
 have hkX:Keeps (fun k=>X k \/ k=r) w w':=hkeep.mono fun _ _ h=>.inr h
 obtain ⟨hjl,hjv⟩:=List.getElem?_eq_some_iff.1 hj
 have hm0:e0 ∈ es:=hjv ▸ List.getElem_mem hjl
 have hborn:(es.set j (⟨key,value,e0.born⟩:jd_)).map jd_.born=es.map jd_.born:=by
  rw [List.map_set]
  have:(es.map jd_.born)[j]?=some e0.born:=by simp [hj]
  exact List.ext_getElem? fun i=>by
   rw [List.getElem?_set]
   split
   ·rename_i hi;subst hi;simp [hjl,hjv]
   ·rfl
 have hkeys:(es.set j (⟨key,value,e0.born⟩:jd_)).map jd_.key=es.map jd_.key:=by
  rw [List.map_set]
  exact List.ext_getElem? fun i=>by
   rw [List.getElem?_set]
   split
   ·rename_i hi;subst hi;simp [hjl,hjv,hk0]
   ·rfl
 have huniq:∀ i e,es[i]?=some e->e.key=key->i=j:=fun i e hi hke=>by
  have e1:(es.map jd_.key)[i]?=some key:=by simp [hi,hke]
  have e2:(es.map jd_.key)[j]?=some key:=by simp [hj,hk0]
  obtain ⟨hil,hiv⟩:=List.getElem?_eq_some_iff.1 e1
  obtain ⟨hjl2,hjv2⟩:=List.getElem?_eq_some_iff.1 e2
  have hp:=List.pairwise_iff_getElem.1 h4
  rcases Nat.lt_trichotomy i j with h | h | h
  ·exact absurd (hiv.trans hjv2.symm) (hp i j hil hjl2 h)
  ·exact h
  ·exact absurd (hjv2.trans hiv.symm) (hp j i hjl2 hil h)
 refine ⟨es.set j ⟨key,value,e0.born⟩,clock,fun e=>if e.key=key then l else f e,hb',fun e hm=>?_,by rw [hborn];exact h3,by rw [hkeys];exact h4,?_,xg_ _ _ _ h6⟩
 ·obtain ⟨i,hi⟩:=List.getElem?_of_mem hm
  rw [List.getElem?_set] at hi
  split at hi
  ·rename_i hij
   subst hij
   simp only [Option.some.injEq] at hi
   subst hi
   exact ⟨hk,(h2 e0 hm0).2.1,by simpa using hv.keep hkX⟩
  ·rename_i hij
   have hme:e ∈ es:=List.mem_of_getElem? hi
   obtain ⟨e1,e2,e3⟩:=h2 e hme
   refine ⟨e1,e2,?_⟩
   show SlRp w' _ e.val (if e.key=key then l else f e)
   rw [if_neg (fun hke=>hij (huniq i e hi hke).symm)]
   exact e3.keep hkX
 ·have hmap:(es.set j (⟨key,value,e0.born⟩:jd_)).map (fun e=>(e.key,if e.key=key then l else f e))=(es.map (fun e=>(e.key,f e))).map fun p=>if p.1=key then (key,l) else p:=by
   rw [List.map_map]
   refine List.ext_getElem? fun i=>?_
   simp only [List.getElem?_map,List.getElem?_set]
   by_cases hij:j=i
   ·subst hij
    simp [hjl,hjv,hk0]
   ·rw [if_neg hij]
    cases hi:es[i]? with
    | none=>rfl
    | some e=>
     have hke:¬ e.key=key:=fun hke=>hij (huniq i e hi hke).symm
     simp [hke]
  rw [hmap,setTag_old key l t h6]
  ·exact h5.map _
  ·have:(e0.key,f e0) ∈ t:=h5.subset (List.mem_map.2 ⟨e0,hm0,rfl⟩)
   exact ⟨_,this,hk0⟩
end
def cSet (g:G) (tM:Nat):Code:=(gS [gIf 4 5 (fun n=>[mk (some n) (.move (tm 0)),mk (some (n + 1)) (.nilCheck (tm n)),mk (some (n + 2)) (.fieldAddr g.tTags (tm (n + 1)) 0),mk (some (n + 3)) (.load tM (tm (n + 2))),mk (some (n + 4)) (.binOp .eql tM (tm (n + 3)) (.const (.map none)) 0)])
  (qu_ 4 fun n=>[mk (some n) (.move (tm 0)),mk (some (n + 1)) (.makeMap tM none),mk (some (n + 2)) (.nilCheck (tm n)),mk (some (n + 3)) (.fieldAddr g.tTags (tm (n + 2)) 0),mk none (.store tM (tm (n + 3)) (tm (n + 1)))]) jk_,
 qu_ 6 fun n=>[mk (some n) (.move (tm 0)),mk (some (n + 1)) (.nilCheck (tm n)),mk (some (n + 2)) (.fieldAddr g.tTags (tm (n + 1)) 0),mk (some (n + 3)) (.load tM (tm (n + 2))),mk (some (n + 4)) (.move (tm 1)),mk (some (n + 5)) (.move (tm 2)),mk none (.mapUpdate tM (tm (n + 3)) (tm (n + 4)) (tm (n + 5)))]] 6).1
section
variable {P:Program} {g:G} {w:World} {a:Act}
theorem wl_mapUpdate {ops:Array Oper} {Q:Exit->Act->World->Prop} {l:List Oper} {tM:Nat} {x y z:Operand} {m k v:Value} {w':World} (hx:a.eval x=m) (hy:a.eval y=k) (hz:a.eval z=v) (hr:(Instr.mapUpdate tM m k v).run P w=.ok () w') (h:wpList P ops Q l a w') :
  wpList P ops Q (mk none (.mapUpdate tM x y z) :: l) a w:=by
 refine wl_skip (w':=w') ?_ h
 simp [execOp,mk,hx,hy,hz,hr]
theorem wl_makeMap {ops:Array Oper} {Q:Exit->Act->World->Prop} {l:List Oper} {d:Option Nat} {tM:Nat} (h:wpList P ops Q l (a.put d (.map (some w.heap.size))) (w.alloc (.map #[] 0))):wpList P ops Q (mk d (.makeMap tM none) :: l) a w:=by
 refine qn_ (w':=w.alloc (.map #[] 0)) ?_ h
 have:(Instr.makeMap tM none).run P w=.ok (.map (some w.heap.size)) (w.alloc (.map #[] 0)):=rfl
 simp [execOp,mk,this]
theorem wl_mapNil {ops:Array Oper} {Q:Exit->Act->World->Prop} {l:List Oper} {d:Option Nat} {tM kt et:Nat} {x:Operand} {m:Option Nat} (hM:P.underlying tM=some (.map kt et)) (hx:a.eval x=.map m) (h:wpList P ops Q l (a.put d (.bool m.isNone)) w) :
  wpList P ops Q (mk d (.binOp .eql tM x (.const (.map none)) 0) :: l) a w:=by
 refine qn_ ?_ h
 have hc:a.eval (.const (.map none))=.map none:=rfl
 have he:(eqGuard .eql tM x (.const (.map none)) (.map m) (.map none)).run P w=.ok () w:=by simp [eqGuard]
 have hr:(binOp .eql tM (.map m) (.map none)).run P w=.ok (.bool m.isNone) w:=by
  have h1:(Op.equal tM (.map m) (.map none)).run P w=.ok m.isNone w:=by
   cases m with
   | none=>exact (show (Op.equalIn (9999 + 1) tM (.map none) (.map none)).run P w=_ from by
     have:∀ d:Nat,(Op.equalIn (d + 1) tM (.map none) (.map none)).run P w=.ok true w:=fun d=>by simp [Op.equalIn,run_underlying hM]
     exact this 9999)
   | some r=>exact (show (Op.equalIn (9999 + 1) tM (.map (some r)) (.map none)).run P w=_ from by
     have:∀ d:Nat,(Op.equalIn (d + 1) tM (.map (some r)) (.map none)).run P w=.ok false w:=fun d=>by simp [Op.equalIn,run_underlying hM]
     exact this 9999)
  simp [binOp,h1]
 simp only [execOp,mk,hx,hc,Sem.run_bind,he,Result.andThen_ok,hr,Sem.run_pure]
theorem set_last {KK:Act->World->Prop} {Q:Exit->Act->World->Prop} {n tM kt et B o q k clock te:Nat} {v:Value} {cur:Array Value} {es:List jd_} (hM:P.underlying tM=some (.map kt et)) (hK:P.underlying kt=some (.int .u32)) (hF:zj_ P g.tTags 0 tM 0 false 1) (h0:a.get 0=pt B o) (h1:a.get 1=.int .u32 k) (h2:a.get 2=v)
  (hk:k < 4294967296) (hB:w.heap[B]?=some (.cells cur te (0,0))) (hO:cur[o]?=some (.map (some q))) (hq:w.heap[q]?=some (.map (es.map jd_.entry).toArray clock)) (hn:n + 6<=a.tmps.size) (h3n:3<=n)
  (h:∀ a' w',a'.defers=a.defers->Keeps (·=q) w w'->(∀ (X:Nat->Prop) (t:List (Nat × Bs)) (l:Bs),MapIs w X q t->SlRp w (fun b=>X b \/ b=q) v l->MapIs w' X q (jg_ k l t))->KK a' w') :
  NWP P (qu_ 6 (fun n=>[mk (some n) (.move (tm 0)),mk (some (n + 1)) (.nilCheck (tm n)),mk (some (n + 2)) (.fieldAddr g.tTags (tm (n + 1)) 0),mk (some (n + 3)) (.load tM (tm (n + 2))),mk (some (n + 4)) (.move (tm 1)),mk (some (n + 5)) (.move (tm 2)),mk none (.mapUpdate tM (tm (n + 3)) (tm (n + 4)) (tm (n + 5)))]) n).1 (Exit.then KK Q) a w:=by
 have hc:w.cell? ⟨B,o + 0,none⟩=some (.map (some q)):=by simp only [World.cell?,hB];simpa using hO
 refine qj_ (qd_ ?_)
 rw [qb_,h0]
 refine qp_ (by rw [qb_,gpe (by omega)];rfl) ?_
 refine ju_ (by rw [qb_,gpe (by simp only [qa_];omega)]) hF ?_
 refine q5_ (by rw [qb_,gpe (by simp only [qa_];omega)]) (hF.var.agg _) hc ?_
 refine qd_ ?_
 rw [qb_,gpo (by omega),gpo (by omega),gpo (by omega),gpo (by omega),h1]
 refine qd_ ?_
 rw [qb_,gpo (by omega),gpo (by omega),gpo (by omega),gpo (by omega),gpo (by omega),h2]
 have hql:q < w.heap.size:=(Array.getElem?_eq_some_iff.1 hq).1
 have hkeep:∀ ob:Obj,Keeps (·=q) w { w with heap:=w.heap.setIfInBounds q ob }:=fun ob=>⟨rfl,rfl,rfl,by simp,fun i _ hi=>by
  show (w.heap.setIfInBounds q ob)[i]?=_
  rw [Array.getElem?_setIfInBounds,if_neg (fun h=>hi h.symm)]⟩
 have hat:∀ ob:Obj,({ w with heap:=w.heap.setIfInBounds q ob }:World).heap[q]?=some ob:=fun ob=>by
  show (w.heap.setIfInBounds q ob)[q]?=_
  rw [Array.getElem?_setIfInBounds,if_pos rfl,if_pos hql]
 rcases run_mapSet (key:=k) (value:=v) hM hK hq with ⟨hnew,hr⟩ | ⟨j,e,hj,hke,hr⟩
 ·refine wl_mapUpdate (by rw [qb_,gpo (by omega),gpo (by omega),gpe (by simp only [qa_];omega)]) (by rw [qb_,gpo (by omega),gpe (by simp only [qa_];omega)]) (by rw [qb_,gpe (by simp only [qa_];omega)]) hr (wpList_nil (h _ _ (by simp only [qf_]) (hkeep _) fun X t l hmi hsl=>?_))
  exact mapIs_push hmi hq hnew hk hsl (hkeep _) (hat _)
 ·refine wl_mapUpdate (by rw [qb_,gpo (by omega),gpo (by omega),gpe (by simp only [qa_];omega)]) (by rw [qb_,gpo (by omega),gpe (by simp only [qa_];omega)]) (by rw [qb_,gpe (by simp only [qa_];omega)]) hr (wpList_nil (h _ _ (by simp only [qf_]) (hkeep _) fun X t l hmi hsl=>?_))
  exact mapIs_mod hmi hq hj hke hk hsl (hkeep _) (hat _)
theorem SlRp.and {X Y:Nat->Prop} {v:Value} {l:Bs} (h:SlRp w X v l) (k:SlRp w Y v l):SlRp w (fun b=>X b \/ Y b) v l:=by
 rcases h with h | ⟨b,o,c,h1,h2,h3⟩
 ·exact .inl h
 ·rcases k with k | ⟨b',o',c',k1,k2,_⟩
  ·exact .inl k
  ·rw [h1] at k1
   simp only [Value.slice.injEq,Option.some.injEq,Addr.mk.injEq] at k1
   obtain ⟨⟨rfl,_⟩,_⟩:=k1
   exact .inr ⟨b,o,c,h1,fun h=>h.elim h2 k2,h3⟩
theorem set_calls (hm:P.follows .mixedOrders=true) {f ntmps tM kt et:Nat} (hfn:FnIs P f ntmps [] (cSet g tM)) (hnt:21<=ntmps) (hM:P.underlying tM=some (.map kt et)) (hK:P.underlying kt=some (.int .u32)) (hF:zj_ P g.tTags 0 tM 0 false 1)
  {B o k:Nat} {m:Value} {t:List (Nat × Bs)} {v:Value} {l:Bs} {cur:Array Value} {te:TypeId} (hk:k < 4294967296) (hB:w.heap[B]?=some (.cells cur te (0,0))) (hO:cur[o]?=some m) (ht:TgRp w (·=B) m t) (hv0:SlRp w (·=B) v l) :
  Calls P f #[pt B o,.int .u32 k,v] w fun e w'=>e=.returned (.tuple #[])/\∃ (q:Nat) (w1:World),w'=w1/\Keeps (fun b=>b=B \/ b=q) w w'/\(m=.map none->q=w.heap.size)/\(∀ r,m=.map (some r)->q=r) /\
   w'.heap[B]?=some (.cells (cur.setIfInBounds o (.map (some q))) te (0,0))/\∀ X:Nat->Prop,¬ X q->(∀ k,X k->k < w.heap.size)->SlRp w (fun k=>X k \/ k=q) v l->TgRp w X m t->TgRp w' X (.map (some q)) (jg_ k l t):=by
 refine hfn.calls hm (by simp) ?_
 have hsz:=jo_ #[pt B o,.int .u32 k,v] ntmps (by show 3<=ntmps;omega)
 have hg0:({ tmps:=#[pt B o,.int .u32 k,v]++Array.replicate (ntmps - (#[pt B o,.int .u32 k,v]:Array Value).size) undef,defers:=[] }:Act).get 0=pt B o:=by rw [ja_ _ _ _ (by simp)];rfl
 have hg1:({ tmps:=#[pt B o,.int .u32 k,v]++Array.replicate (ntmps - (#[pt B o,.int .u32 k,v]:Array Value).size) undef,defers:=[] }:Act).get 1=.int .u32 k:=by rw [ja_ _ _ _ (by simp)];rfl
 have hg2:({ tmps:=#[pt B o,.int .u32 k,v]++Array.replicate (ntmps - (#[pt B o,.int .u32 k,v]:Array Value).size) undef,defers:=[] }:Act).get 2=v:=by rw [ja_ _ _ _ (by simp)];rfl
 have hd:({ tmps:=#[pt B o,.int .u32 k,v]++Array.replicate (ntmps - (#[pt B o,.int .u32 k,v]:Array Value).size) undef,defers:=[] }:Act).defers=[]:=rfl
 have hs:({ tmps:=#[pt B o,.int .u32 k,v]++Array.replicate (ntmps - (#[pt B o,.int .u32 k,v]:Array Value).size) undef,defers:=[] }:Act).tmps.size=ntmps:=hsz
 generalize ({ tmps:=#[pt B o,.int .u32 k,v]++Array.replicate (ntmps - (#[pt B o,.int .u32 k,v]:Array Value).size) undef,defers:=[] }:Act)=a at hg0 hg1 hg2 hd hs ⊢
 have hBl:B < w.heap.size:=(Array.getElem?_eq_some_iff.1 hB).1
 have hol:o < cur.size:=(Array.getElem?_eq_some_iff.1 hO).1
 have hc:w.cell? ⟨B,o + 0,none⟩=some m:=by simp only [World.cell?,hB];simpa using hO
 obtain ⟨mm,rfl⟩:∃ mm,m=.map mm:=by
  rcases ht with ⟨h,_⟩ | ⟨r,h,_⟩
  ·exact ⟨none,h⟩
  ·exact ⟨some r,h⟩
 refine q2_ (qc_ ?_)
 have key:∀ (K':Act->World->Prop) (Q':Exit->Act->World->Prop),(∀ a',a'.eval (tm (6 + 4))=.bool mm.isNone->Pv 6 0 0 6 a a'->K' a' w) ->
   wpList P [mk (some 6) (.move (tm 0)),mk (some (6 + 1)) (.nilCheck (tm 6)),mk (some (6 + 2)) (.fieldAddr g.tTags (tm (6 + 1)) 0),mk (some (6 + 3)) (.load tM (tm (6 + 2))),mk (some (6 + 4)) (.binOp .eql tM (tm (6 + 3)) (.const (.map none)) 0)].toArray (Exit.then K' Q')
   [mk (some 6) (.move (tm 0)),mk (some (6 + 1)) (.nilCheck (tm 6)),mk (some (6 + 2)) (.fieldAddr g.tTags (tm (6 + 1)) 0),mk (some (6 + 3)) (.load tM (tm (6 + 2))),mk (some (6 + 4)) (.binOp .eql tM (tm (6 + 3)) (.const (.map none)) 0)] a w:=by
  intro K' Q' hK'
  refine qd_ ?_
  rw [qb_,hg0]
  refine qp_ (by rw [qb_,gpe (by omega)];rfl) ?_
  refine ju_ (by rw [qb_,gpe (by simp only [qa_];omega)]) hF ?_
  refine q5_ (by rw [qb_,gpe (by simp only [qa_];omega)]) (hF.var.agg _) hc ?_
  refine wl_mapNil hM (by rw [qb_,gpe (by simp only [qa_];omega)]) (wpList_nil (hK' _ (by rw [qb_,gpe (by simp only [qa_];omega)]) ((((((Pv.refl _ _ _ _ _).put _ (by omega)).put _ (by omega)).put _ (by omega)).put _ (by omega)).put _ (by omega))))
 cases mm with
 | none=>
  refine z3_ (key _ _ fun a1 he hp=>⟨he,?_⟩)
  have hs1:=hp.size
  have h01:a1.get 0=pt B o:=(hp.get 0 (by omega) (.inr ⟨by omega,by omega⟩)).trans hg0
  refine qj_ (qd_ ?_)
  rw [qb_,h01]
  refine wl_makeMap ?_
  refine qp_ (by rw [qb_,gpo (by omega),gpe (by omega)];rfl) ?_
  refine ju_ (by rw [qb_,gpe (by simp only [qa_];omega)]) hF ?_
  have hB1:(w.alloc (.map #[] 0)).heap[B]?=some (.cells cur te (0,0)):=by rw [q4_ hBl];exact hB
  refine q8_ (cur:=cur) (t:=te) (v:=.map (some w.heap.size)) (vs:=[.map (some w.heap.size)]) (by rw [qb_,gpe (by simp only [qa_];omega)]) (by rw [qb_,gpo (by omega),gpo (by omega),gpe (by simp only [qa_];omega)]) rfl (hF.var.size _) hB1 (by simp only [List.length_cons,List.length_nil];omega) (fun u hu=>by simp at hu;rw [hu];rfl) (wpList_nil ?_)
  have e1:qt_ cur (o + 0) [.map (some w.heap.size)]=cur.setIfInBounds o (.map (some w.heap.size)):=splice_one hol
  rw [e1]
  have hB2:((w.alloc (.map #[] 0)).setRow B (cur.setIfInBounds o (.map (some w.heap.size)))).heap[B]?=some (.cells (cur.setIfInBounds o (.map (some w.heap.size))) te (0,0)):=setRow_heap _ _ _ _ _ _ hB1
  have hq2:((w.alloc (.map #[] 0)).setRow B (cur.setIfInBounds o (.map (some w.heap.size)))).heap[w.heap.size]?=some (.map (([]:List jd_).map jd_.entry).toArray 0):=by rw [setRow_other _ _ _ _ (by omega)];exact heap_alloc_new _ _
  have hk2:Keeps (fun b=>b=B) w ((w.alloc (.map #[] 0)).setRow B (cur.setIfInBounds o (.map (some w.heap.size)))):=(Keeps.alloc (fun b=>b=B) w _).trans (Keeps.setRow (fun b=>b=B) _ _ _ rfl)
  have hsz2:((w.alloc (.map #[] 0)).setRow B (cur.setIfInBounds o (.map (some w.heap.size)))).heap.size=w.heap.size + 1:=by simp
  generalize (w.alloc (.map #[] 0)).setRow B (cur.setIfInBounds o (.map (some w.heap.size)))=w2 at hB2 hq2 hk2 hsz2 ⊢
  refine qc_ (set_last (v:=v) (k:=k) (cur:=cur.setIfInBounds o (.map (some w.heap.size))) (o:=o) (q:=w.heap.size) hM hK hF ?_ ?_ ?_ hk hB2 (by simp [hol]) hq2 (by simp only [qa_,gIf,qu_,jk_,q3_];omega) (by simp only [gIf,qu_,jk_,q3_];omega) fun a3 w3 hd3 hk3 hmap=>q0_ ⟨?_,rfl,w.heap.size,w3,rfl,?_,fun _=>rfl,fun r h=>(by cases h),?_,fun X hXq hX hsl htg=>?_⟩)
  ·rw [gpo (by omega),gpo (by omega),gpo (by omega),gpo (by omega)];exact h01
  ·rw [gpo (by omega),gpo (by omega),gpo (by omega),gpo (by omega)];exact (hp.get 1 (by omega) (.inr ⟨by omega,by omega⟩)).trans hg1
  ·rw [gpo (by omega),gpo (by omega),gpo (by omega),gpo (by omega)];exact (hp.get 2 (by omega) (.inr ⟨by omega,by omega⟩)).trans hg2
  ·rw [hd3];simp only [qf_];rw [hp.defers];exact hd
  ·exact (hk2.mono fun _ _ h=>.inl h).trans (hk3.mono fun _ _ h=>.inr h)
  ·rw [hk3.block B (by omega) (by omega)];exact hB2
  ·rcases htg with ⟨_,rfl⟩ | ⟨r,h,_⟩
   ·refine .inr ⟨w.heap.size,rfl,hXq,by have:=hk3.size;omega,hmap X [] l ⟨[],0,fun _=>[],hq2,fun e he=>by simp at he,by simp,by simp,by simp,trivial⟩ ?_,setTag_ne _ _ _⟩
    exact ((hsl.and hv0).keep (hk2.mono fun _ _ h=>.inr h)).mono fun _ _ h=>.inl h
   ·cases h
 | some r=>
  refine z2_ (key _ _ fun a1 he hp=>⟨he,.skip ?_⟩)
  have hs1:=hp.size
  have hrB:¬ r=B/\∃ (es:List jd_) (clock:Nat),w.heap[r]?=some (.map (es.map jd_.entry).toArray clock):=by
   rcases ht with ⟨h,_⟩ | ⟨r2,h,h1,_,⟨es,c,_,h2,_⟩,_⟩
   ·cases h
   ·cases h;exact ⟨h1,es,c,h2⟩
  obtain ⟨hrne,es,clock,hq⟩:=hrB
  refine qc_ (set_last (cur:=cur) (o:=o) (q:=r) hM hK hF ((hp.get 0 (by omega) (.inr ⟨by omega,by omega⟩)).trans hg0) ((hp.get 1 (by omega) (.inr ⟨by omega,by omega⟩)).trans hg1) ((hp.get 2 (by omega) (.inr ⟨by omega,by omega⟩)).trans hg2) hk hB hO hq (by simp only [gIf,qu_,jk_,q3_];omega) (by simp only [gIf,qu_,jk_,q3_];omega) fun a3 w3 hd3 hk3 hmap=>q0_ ⟨?_,rfl,r,w3,rfl,hk3.mono fun _ _ h=>.inr h,fun h=>(by cases h),fun r' h=>(by cases h;rfl),?_,fun X hXq hX hsl htg=>?_⟩)
  ·rw [hd3,hp.defers];exact hd
  ·rw [hk3.block B hBl (fun h=>hrne h.symm),hB]
   congr 2
   apply Array.ext_getElem?
   intro i
   rw [Array.getElem?_setIfInBounds]
   split
   ·rename_i hi;subst hi;first | exact hO.symm | (rw [if_pos hol];exact hO.symm) | exact hO
   ·rfl
  ·rcases htg with ⟨h,_⟩ | ⟨r2,h,_,h2,h3,_⟩
   ·cases h
   ·cases h
    exact .inr ⟨r,rfl,hXq,Nat.lt_of_lt_of_le h2 hk3.size,hmap X t l h3 hsl,setTag_ne _ _ _⟩
end
section
variable {P:Program} {g:G} {K:Kn}
structure TI (g:G) (S R p2 p3 ntmps:Nat) (w0:World) (fin:List (Nat × Bs) × RS) (c:Nat) (a:Act) (w:World):Prop where
 g0:a.get 0=pt R 0
 g2:a.get 2=pt p2 0
 g3:a.get 3=pt p3 0
 g4:a.get 4=.int .u32 c
 size:a.tmps.size=ntmps
 defers:a.defers=[]
 keeps:Keeps (·=R) w0 w
 b2:w.heap[p2]?=some (.cells #[.map none] g.tTags (0,0))
 ex:∃ t r mm,jq_ c t r=fin/\RdS w g.tR S R r/\w.heap[p3]?=some (.cells #[mm] g.tTags (0,0))/\(mm=.map none \/ ∃ q,mm=.map (some q)/\w0.heap.size + 2<=q)/\∀ X:Nat->Prop,(∀ k,X k->k < w0.heap.size + 2)->¬ X S->TgRp w X mm t
def SetOk (P:Program) (f:Nat):Prop:=
 ∀ (w:World) (B o:Nat) (m:Value) (t:List (Nat × Bs)) (k:Nat) (v:Value) (l:Bs) (cur:Array Value) (te:TypeId),k < 4294967296->w.heap[B]?=some (.cells cur te (0,0))->cur[o]?=some m->TgRp w (·=B) m t->SlRp w (·=B) v l ->
  Calls P f #[pt B o,.int .u32 k,v] w fun e w'=>e=.returned (.tuple #[])/\∃ (q:Nat) (w1:World),w'=w1/\Keeps (fun b=>b=B \/ b=q) w w'/\(m=.map none->q=w.heap.size)/\(∀ r,m=.map (some r)->q=r) /\
   w'.heap[B]?=some (.cells (cur.setIfInBounds o (.map (some q))) te (0,0))/\∀ X:Nat->Prop,¬ X q->(∀ k,X k->k < w.heap.size)->SlRp w (fun k=>X k \/ k=q) v l->TgRp w X m t->TgRp w' X (.map (some q)) (jg_ k l t)
theorem tags_step {T:Nat} (kt:KT P g K) (ks:KSub P g K T) (hUk:za_ g.uv=true) (hSk:za_ g.span=true) (hT:T=g.tR) (hsE:Ent P g.set) (hset:SetOk P g.set) {S R p2 p3 ntmps c:Nat} {w0 w:World} {fin:List (Nat × Bs) × RS} {a:Act} {KK:Act->World->Prop} {Q:Exit->Act->World->Prop}
  (hp2:p2=w0.heap.size) (hp3:p3=w0.heap.size + 1) (hS:S < w0.heap.size) (hR:R < w0.heap.size) (hRS:S ≠ R) (hnt:24<=ntmps) (hI:TI g S R p2 p3 ntmps w0 fin (c + 1) a w)
  (h:∀ a' w',a'.get 4=.int .u32 ((c + 1:Nat):Int)->(∀ a'',a''.get 0=a'.get 0->a''.get 2=a'.get 2->a''.get 3=a'.get 3->a''.get 4=.int .u32 c->a''.tmps.size=a'.tmps.size->a''.defers=a'.defers->TI g S R p2 p3 ntmps w0 fin c a'' w')->a'.tmps.size=ntmps->KK a' w') :
  NWP P (.seq (rg [mk (some 13) (.move (tm 0)),cl (some 14) g.uv [tm 13],mk (some 15) (.move (tm 0)),cl (some 16) g.uv [tm 15],mk (some 5) (.assign (tm 14)),mk (some 6) (.assign (tm 16))])
   (rg [mk (some 17) (.move (tm 5)),mk (some 18) (.move (tm 0)),mk (some 19) (.move (tm 6)),mk (some 20) (.convert K.tU32 K.tInt (tm 19)),cl (some 21) g.span [tm 18,tm 20],cl (some 22) g.set [tm 3,tm 17,tm 21]])) (Exit.then KK Q) a w:=by
 subst hT
 obtain ⟨t,r,mm,hfin,hrd,hb3,hmm,htg⟩:=hI.ex
 have hs:=hI.size
 refine .seq (R:=Exit.then (fun a1 w1=>∃ w',w1=w'/\(∀ s,s < 5->a1.get s=a.get s)/\a1.get 5=.int .u32 (rUv r).1/\a1.get 6=.int .u32 (rUv (rUv r).2).1/\a1.tmps.size=ntmps/\a1.defers=[]/\RdS w' g.tR S R (rUv (rUv r).2).2/\Keeps (·=R) w w') Q) (qj_ ?_) (fun a1 w1 hh=>?_) (fun e a w he hq=>by rw [zc_ he] at hq ⊢;exact hq)
 ·refine qd_ ?_
  rw [qb_,hI.g0]
  refine qv_ (vs:=#[pt R 0]) (ks.eU hUk) (by simp [qb_,gpe (show 13 < a.tmps.size by omega)]) (ks.cU hUk w S R r hrd hRS) fun e w1 hR1=>⟨_,hR1.1,?_⟩
  refine qd_ ?_
  rw [qb_,gpo (by omega),gpo (by omega),hI.g0]
  refine qv_ (vs:=#[pt R 0]) (ks.eU hUk) (by simp [qb_,gpe (show 15 < ((a.put (some 13) (pt R 0)).put (some 14) (.int .u32 (rUv r).1)).tmps.size by simp only [qa_];omega)]) (ks.cU hUk w1 S R (rUv r).2 hR1.2.1 hRS) fun e2 w2 hR2=>⟨_,hR2.1,?_⟩
  refine qg_ (qg_ (wpList_nil ⟨w2,rfl,fun s hs5=>?_,?_,?_,?_,?_,hR2.2.1,hR1.2.2.trans hR2.2.2⟩))
  ·rw [gpo (by omega),gpo (by omega),gpo (by omega),gpo (by omega),gpo (by omega),gpo (by omega)]
  ·rw [gpo (by omega),gpe (by simp only [qa_];omega),qb_,gpo (by omega),gpo (by omega),gpe (by simp only [qa_];omega)]
  ·rw [gpe (by simp only [qa_];omega),qb_,gpo (by omega),gpe (by simp only [qa_];omega)]
  ·simp only [qa_];exact hs
  ·simp only [qf_];exact hI.defers
 ·obtain ⟨w1',rfl,hlow,h5,h6,hs1,hd1,hrd1,hk1⟩:=hh
  have hlt:=rUv_lt (rUv r).2
  have hsz0:=hI.keeps.size
  have hk01:Keeps (·=R) w0 w1:=hI.keeps.trans hk1
  have hp3l:p3 < w.heap.size:=(Array.getElem?_eq_some_iff.1 hb3).1
  have hp2l:p2 < w.heap.size:=(Array.getElem?_eq_some_iff.1 hI.b2).1
  have hsz1:=hk1.size
  refine qj_ (qd_ ?_)
  rw [qb_,h5]
  refine qd_ ?_
  rw [qb_,gpo (by omega),hlow 0 (by omega),hI.g0]
  refine qd_ ?_
  rw [qb_,gpo (by omega),gpo (by omega),h6]
  have hwr:IntKind.i64.wrap ((rUv (rUv r).2).1:Int)=((rUv (rUv r).2).1:Int):=by simp [IntKind.wrap,IntKind.bits,IntKind.signed];omega
  refine qw_ (k:=.u32) (k':=.i64) (m:=((rUv (rUv r).2).1:Int)) (by rw [qb_,gpe (by simp only [qa_];omega)]) kt.dU32 kt.dInt ?_
  rw [hwr]
  refine qv_ (vs:=#[pt R 0,.int .i64 ((rUv (rUv r).2).1:Int)]) (ks.eS hSk) ?_ (ks.cS hSk w1 S R _ _ hrd1 hRS) fun e w2 hR2=>?_
  ·simp only [List.map_cons,List.map_nil,qb_]
   rw [gpe (by simp only [qa_];omega),gpo (show 18 ≠ 20 by omega),gpo (show 18 ≠ 19 by omega),gpe (by simp only [qa_];omega)]
  obtain ⟨v,he,hrd2,hk2,hv2⟩:=hR2
  refine ⟨v,he,?_⟩
  have hk02:Keeps (·=R) w w2:=hk1.trans hk2
  have hb32:w2.heap[p3]?=some (.cells #[mm] g.tTags (0,0)):=by rw [hk02.block p3 hp3l (by omega)];exact hb3
  have hsz2:=hk2.size
  have htg2:∀ X:Nat->Prop,(∀ k,X k->k < w0.heap.size + 2)->¬ X S->TgRp w2 X mm t:=fun X hX hXS=>
   ((htg (fun k=>X k \/ k=R) (fun k hk=>by rcases hk with hk | hk;exact hX k hk;omega) (fun hk=>by rcases hk with hk | hk;exact hXS hk;exact hRS hk)).keep (hk02.mono fun _ _ h=>.inr h)).mono fun _ _ h=>.inl h
  have hkk:=rUv_lt r
  refine qv_ (vs:=#[pt p3 0,.int .u32 (rUv r).1,v]) hsE ?_ (hset w2 p3 0 mm t (rUv r).1 v _ #[mm] g.tTags hkk hb32 rfl (htg2 _ (fun k hk=>by omega) (by omega)) (hv2.sl (by omega))) fun e3 w3 hR3=>?_
  ·simp only [List.map_cons,List.map_nil,qb_]
   rw [gpe (by simp only [qa_];omega),gpo (show 3 ≠ 21 by omega),gpo (show 3 ≠ 20 by omega),gpo (show 3 ≠ 19 by omega),gpo (show 3 ≠ 18 by omega),gpo (show 3 ≠ 17 by omega),hlow 3 (by omega),hI.g3,
    gpo (show 17 ≠ 21 by omega),gpo (show 17 ≠ 20 by omega),gpo (show 17 ≠ 19 by omega),gpo (show 17 ≠ 18 by omega),gpe (by omega)]
  obtain ⟨he3,q,w',rfl,hk3,hq0,hq1,hb33,hT3⟩:=hR3
  have hqg:w0.heap.size + 2<=q:=by
   rcases hmm with hm | ⟨q',hm,hq'⟩
   ·rw [hq0 hm];omega
   ·rw [hq1 q' hm];exact hq'
  have hsz3:=hk3.size
  refine ⟨_,he3,wpList_nil (h _ w3 ?_ (fun a'' e0 e2 e3' e4 es ed=>⟨e0.trans ?_,e2.trans ?_,e3'.trans ?_,e4,es.trans ?_,ed.trans ?_,?_,?_,jg_ (rUv r).1 _ t,_,.map (some q),hfin,hrd2.keep hk3 (by omega) (by omega),?_,.inr ⟨q,rfl,hqg⟩,fun X hX hXS=>?_⟩) ?_)⟩
  ·rw [gpo (by omega),gpo (by omega),gpo (by omega),gpo (by omega),gpo (by omega),gpo (by omega),hlow 4 (by omega)];exact hI.g4
  ·rw [gpo (by omega),gpo (by omega),gpo (by omega),gpo (by omega),gpo (by omega),gpo (by omega),hlow 0 (by omega)];exact hI.g0
  ·rw [gpo (by omega),gpo (by omega),gpo (by omega),gpo (by omega),gpo (by omega),gpo (by omega),hlow 2 (by omega)];exact hI.g2
  ·rw [gpo (by omega),gpo (by omega),gpo (by omega),gpo (by omega),gpo (by omega),gpo (by omega),hlow 3 (by omega)];exact hI.g3
  ·simp only [qa_];exact hs1
  ·simp only [qf_];exact hd1
  ·refine ⟨hk3.os.trans (hk02.os.trans hI.keeps.os),hk3.tape.trans (hk02.tape.trans hI.keeps.tape),hk3.output.trans (hk02.output.trans hI.keeps.output),by omega,fun i hi hx=>?_⟩
   rw [hk3.block i (by omega) (by omega),hk02.block i (by omega) hx,hI.keeps.block i hi hx]
  ·rw [hk3.block p2 (by omega) (by omega),hk02.block p2 hp2l (by omega)];exact hI.b2
  ·rw [hb33];rfl
  ·exact hT3 X (fun h=>by have:=hX q h;omega) (fun k hk=>by have:=hX k hk;omega) (hv2.sl fun h=>by rcases h with h | h;exact hXS h;omega) (htg2 X hX hXS)
  ·simp only [qa_];exact hs1
end
section
variable {P:Program} {g:G} {K:Kn}
theorem run_loadVar_agg {F p:Nat} {w:World} {v x:Value} (hV:jp_ P F true 1) (hb:w.heap[p]?=some (.cells (qt_ #[x] 0 [v]) F (0,0))):(loadVar F ⟨p,0,none⟩).run P w=.ok (.agg #[v]) w:=by
 have hl:=run_loadCells_list (P:=P) w ⟨p,0,none⟩ [v] (fun j u hj=>by
  rw [Addr.add_lit]
  cases j with
  | zero=>simp at hj;subst hj;simp [World.cell?,hb,qt_]
  | succ j=>simp at hj)
 simp only [List.length_cons,List.length_nil,Nat.zero_add] at hl
 simp [loadVar,hV.agg w,hV.size w,hl]
theorem TI.put {S R p2 p3 ntmps c:Nat} {w0 w:World} {fin:List (Nat × Bs) × RS} {a:Act} (h:TI g S R p2 p3 ntmps w0 fin c a w) {d:Nat} {v:Value} (hd:5<=d):TI g S R p2 p3 ntmps w0 fin c (a.put (some d) v) w:=
 ⟨by rw [gpo (by omega)];exact h.g0,by rw [gpo (by omega)];exact h.g2,by rw [gpo (by omega)];exact h.g3,by rw [gpo (by omega)];exact h.g4,by rw [qa_];exact h.size,by rw [qf_];exact h.defers,h.keeps,h.b2,h.ex⟩
theorem tags_loop {T:Nat} (kt:KT P g K) (ks:KSub P g K T) (hUk:za_ g.uv=true) (hSk:za_ g.span=true) (hT:T=g.tR) (hsE:Ent P g.set) (hset:SetOk P g.set) {S R p2 p3 ntmps:Nat} {w0 w:World} {fin:List (Nat × Bs) × RS} {c:Nat} {a:Act} {KK E:Act->World->Prop}
  (hp2:p2=w0.heap.size) (hp3:p3=w0.heap.size + 1) (hS:S < w0.heap.size) (hR:R < w0.heap.size) (hRS:S ≠ R) (hnt:24<=ntmps) (hc0:c < 4294967296) (hI:TI g S R p2 p3 ntmps w0 fin c a w)
  (h:∀ a' w',TI g S R p2 p3 ntmps w0 fin 0 a' w'->KK a' w') :
  NWP P (.block 0 (.loop (.seq (.seq (rg [mk (some 9) (.move (tm 4)),mk (some 10) (.binOp .gtr K.tU32 (tm 9) (ki .u32 0) 0)]) (.cond (tm 10) .skip (.exit 0)))
  (.seq (.block 1 (.seq (rg [mk (some 13) (.move (tm 0)),cl (some 14) g.uv [tm 13],mk (some 15) (.move (tm 0)),cl (some 16) g.uv [tm 15],mk (some 5) (.assign (tm 14)),mk (some 6) (.assign (tm 16))])
   (rg [mk (some 17) (.move (tm 5)),mk (some 18) (.move (tm 0)),mk (some 19) (.move (tm 6)),mk (some 20) (.convert K.tU32 K.tInt (tm 19)),cl (some 21) g.span [tm 18,tm 20],cl (some 22) g.set [tm 3,tm 17,tm 21]])))
   (rg [mk (some 11) (.move (tm 4)),mk (some 12) (.binOp .sub K.tU32 (tm 11) (ki .u32 1) 0),mk (some 4) (.assign (tm 12))]))))) (Rt KK E) a w:=by
 refine .block (.loop (fun a1 w1=>∃ c:Nat,c < 4294967296/\TI g S R p2 p3 ntmps w0 fin c a1 w1) (fun a1 _=>(match a1.get 4 with | .int _ q=>q | _=>0).toNat) ⟨c,hc0,hI⟩ ?_)
 rintro a1 w1 ⟨c,hc1,h1⟩
 have hs1:=h1.size
 have htest:∀ (b:Bool),b=decide ((0:Int) < (c:Int))->wpList P [mk (some 9) (.move (tm 4)),mk (some 10) (.binOp .gtr K.tU32 (tm 9) (ki .u32 0) 0)].toArray
   (Rt (fun a' w'=>a'.eval (tm 10)=.bool b/\TI g S R p2 p3 ntmps w0 fin c a' w'/\w'=w1) E) [mk (some 9) (.move (tm 4)),mk (some 10) (.binOp .gtr K.tU32 (tm 9) (ki .u32 0) 0)] a1 w1:=by
  intro b hb
  refine qd_ ?_
  rw [qb_,h1.g4]
  refine q9_ (b:=b) (p:=c) (q:=0) (k:=.u32) (by rw [qb_,gpe (by omega)]) rfl (.inr (.inr (.inr (.inl ⟨rfl,hb⟩)))) (wpList_nil ?_)
  exact ⟨by rw [qb_,gpe (by simp only [qa_];omega)],(h1.put (by omega)).put (by omega),rfl⟩
 cases c with
 | succ c=>
  refine .seq (R:=Rt (fun a2 w2=>TI g S R p2 p3 ntmps w0 fin (c + 1) a2 w2/\w2=w1) E) ?_ (fun a2 w2 hh=>?_) (fun e a w he hq=>by cases e <;> first | exact absurd rfl he | exact hq | exact hq.elim)
  ·refine .seq (.reg (htest true (by simp))) (fun a2 w2 hh=>.condT hh.1 (.skip hh.2)) (fun e a w he hq=>by cases e <;> first | exact absurd rfl he | exact hq)
  ·obtain ⟨h2,rfl⟩:=hh
   refine .seq (R:=Rt (fun a3 w3=>a3.get 4=.int .u32 ((c + 1:Nat):Int)/\(∀ a'',a''.get 0=a3.get 0->a''.get 2=a3.get 2->a''.get 3=a3.get 3->a''.get 4=.int .u32 c->a''.tmps.size=a3.tmps.size->a''.defers=a3.defers->TI g S R p2 p3 ntmps w0 fin c a'' w3)/\a3.tmps.size=ntmps) E)
    (.block (.mono (tags_step kt ks hUk hSk hT hsE hset hp2 hp3 hS hR hRS hnt h2 (Q:=Rt (fun _ _=>False) E) (KK:=fun a3 w3=>a3.get 4=.int .u32 ((c + 1:Nat):Int)/\(∀ a'',a''.get 0=a3.get 0->a''.get 2=a3.get 2->a''.get 3=a3.get 3->a''.get 4=.int .u32 c->a''.tmps.size=a3.tmps.size->a''.defers=a3.defers->TI g S R p2 p3 ntmps w0 fin c a'' w3)/\a3.tmps.size=ntmps) (fun a' w' x y z=>⟨x,y,z⟩))
     fun e a w hq=>by cases e <;> first | exact hq | exact hq.elim)) (fun a3 w3 hh=>?_) (fun e a w he hq=>by cases e <;> first | exact absurd rfl he | exact hq | exact hq.elim)
   obtain ⟨hg3,hT3,hs3⟩:=hh
   refine .reg (qd_ ?_)
   rw [qb_,hg3]
   have hwr:IntKind.u32.wrap (((c + 1:Nat):Int) - 1)=(c:Int):=by simp [IntKind.wrap,IntKind.bits,IntKind.signed];omega
   refine zk_ (v:=.int .u32 (c:Int)) (k:=.u32) (m:=((c + 1:Nat):Int)) (n:=1) (by rw [qb_,gpe (by omega)]) rfl (by simp) (by simp only [binOp,Op.intArith,hwr];simp) ?_
   refine qg_ (wpList_nil ?_)
   rw [qb_,gpe (by simp only [qa_];omega)]
   have hgi':(((a3.put (some 11) (.int .u32 ((c + 1:Nat):Int))).put (some 12) (.int .u32 (c:Int))).put (some 4) (.int .u32 (c:Int))).get 4=.int .u32 (c:Int):=gpe (by simp only [qa_];omega)
   refine ⟨⟨c,by omega,hT3 _ ?_ ?_ ?_ hgi' ?_ ?_⟩,?_⟩
   ·rw [gpo (by omega),gpo (by omega),gpo (by omega)]
   ·rw [gpo (by omega),gpo (by omega),gpo (by omega)]
   ·rw [gpo (by omega),gpo (by omega),gpo (by omega)]
   ·simp only [qa_]
   ·simp only [qf_]
   ·rw [hgi',h1.g4]
    simp only
    omega
 | zero=>
  refine .seq (R:=fun e a w=>e ≠ .normal/\Exit.inBlock 0 (Rt KK E) e a w) ?_ (fun a2 w2 hh=>absurd rfl hh.1) (fun e a w he hq=>?_)
  ·refine .seq (R:=Rt (fun a' w'=>a'.eval (tm 10)=.bool false/\TI g S R p2 p3 ntmps w0 fin 0 a' w'/\w'=w1) E) (.reg (htest false (by simp))) (fun a2 w2 hh=>.condF hh.1 (.exit ?_)) (fun e a w he hq=>by cases e <;> first | exact absurd rfl he | exact ⟨by simp,hq⟩ | exact hq.elim)
   simp only [Exit.inBlock,if_true]
   exact ⟨by simp,h a2 w2 hh.2.1⟩
  ·rw [zc_ he];exact hq.2
theorem rdTags_calls {T:Nat} (kt:KT P g K) (ks:KSub P g K T) (hUk:za_ g.uv=true) (hSk:za_ g.span=true) (hT:T=g.tR) (hsE:Ent P g.set) (hset:SetOk P g.set) (hz:∀ w,(zeroValue g.tTags).run P w=.ok (.agg #[.map none]) w) (hV:jp_ P g.tTags true 1) {f ntmps:Nat} (hfn:FnIsC P f ntmps 2 g.tTags (cRdTags g K)) (hnt:24<=ntmps)
  {w:World} {S R:Nat} {r:RS} (hR:RdS w g.tR S R r) (hRS:S ≠ R) (hS:S < w.heap.size):Calls P f #[pt R 0] w fun e w'=>
  ∃ m,e=.returned (.agg #[m])/\RdS w' g.tR S R (jq_ (rUv r).1 [] (rUv r).2).2/\Keeps (·=R) w w'/\∀ X:Nat->Prop,(∀ k,X k->k < w.heap.size)->¬ X S->TgRp w' X m (jq_ (rUv r).1 [] (rUv r).2).1:=by
 refine hfn.calls kt.mixed ?_
 have hsz:=jo_ #[pt R 0] ntmps (by show 1<=ntmps;omega)
 have hg0:({ tmps:=#[pt R 0]++Array.replicate (ntmps - (#[pt R 0]:Array Value).size) undef,defers:=[] }:Act).get 0=pt R 0:=by rw [ja_ _ _ _ (by simp)];rfl
 have hd0:({ tmps:=#[pt R 0]++Array.replicate (ntmps - (#[pt R 0]:Array Value).size) undef,defers:=[] }:Act).defers=[]:=rfl
 have hsz':({ tmps:=#[pt R 0]++Array.replicate (ntmps - (#[pt R 0]:Array Value).size) undef,defers:=[] }:Act).tmps.size=ntmps:=hsz
 generalize ({ tmps:=#[pt R 0]++Array.replicate (ntmps - (#[pt R 0]:Array Value).size) undef,defers:=[] }:Act)=a at hg0 hd0 hsz' ⊢
 have hRl:=hR.lt
 unfold cRdTags
 refine qh_ (qj_ (zp_ (hz w) (wpList_nil ?_)))
 refine qh_ (qj_ (zp_ (hz _) (wpList_nil ?_)))
 have hkA:Keeps (fun _=>False) w ((w.alloc (.cells (Value.agg #[.map none]).cells g.tTags (0,0))).alloc (.cells (Value.agg #[.map none]).cells g.tTags (0,0))):=(Keeps.alloc _ _ _).trans (Keeps.alloc _ _ _)
 have hb2:((w.alloc (.cells (Value.agg #[.map none]).cells g.tTags (0,0))).alloc (.cells (Value.agg #[.map none]).cells g.tTags (0,0))).heap[w.heap.size]?=some (.cells #[.map none] g.tTags (0,0)):=by rw [q4_ (by simp)];exact heap_alloc_new _ _
 have hb3:((w.alloc (.cells (Value.agg #[.map none]).cells g.tTags (0,0))).alloc (.cells (Value.agg #[.map none]).cells g.tTags (0,0))).heap[w.heap.size + 1]?=some (.cells #[.map none] g.tTags (0,0)):=by
  have:=heap_alloc_new (w.alloc (.cells (Value.agg #[.map none]).cells g.tTags (0,0))) (.cells (Value.agg #[.map none]).cells g.tTags (0,0))
  rw [show (w.alloc (.cells (Value.agg #[.map none]).cells g.tTags (0,0))).heap.size=w.heap.size + 1 by simp] at this
  exact this
 have hszA:((w.alloc (.cells (Value.agg #[.map none]).cells g.tTags (0,0))).alloc (.cells (Value.agg #[.map none]).cells g.tTags (0,0))).heap.size=w.heap.size + 2:=by simp
 have hsw:(w.alloc (.cells (Value.agg #[.map none]).cells g.tTags (0,0))).heap.size=w.heap.size + 1:=by simp
 rw [hsw]
 generalize (w.alloc (.cells (Value.agg #[.map none]).cells g.tTags (0,0))).alloc (.cells (Value.agg #[.map none]).cells g.tTags (0,0))=w2 at hkA hb2 hb3 hszA ⊢
 have e0:((a.put (some 2) (.pointer (some ⟨w.heap.size,0,none⟩))).put (some 3) (.pointer (some ⟨w.heap.size + 1,0,none⟩))).get 0=pt R 0:=by rw [gpo (by omega),gpo (by omega)];exact hg0
 have e2:((a.put (some 2) (.pointer (some ⟨w.heap.size,0,none⟩))).put (some 3) (.pointer (some ⟨w.heap.size + 1,0,none⟩))).get 2=pt w.heap.size 0:=by rw [gpo (by omega),gpe (by omega)];rfl
 have e3:((a.put (some 2) (.pointer (some ⟨w.heap.size,0,none⟩))).put (some 3) (.pointer (some ⟨w.heap.size + 1,0,none⟩))).get 3=pt (w.heap.size + 1) 0:=by rw [gpe (by simp only [qa_];omega)];rfl
 have es:((a.put (some 2) (.pointer (some ⟨w.heap.size,0,none⟩))).put (some 3) (.pointer (some ⟨w.heap.size + 1,0,none⟩))).tmps.size=ntmps:=by simp only [qa_];exact hsz'
 have ed:((a.put (some 2) (.pointer (some ⟨w.heap.size,0,none⟩))).put (some 3) (.pointer (some ⟨w.heap.size + 1,0,none⟩))).defers=[]:=by simp only [qf_];exact hd0
 generalize (a.put (some 2) (.pointer (some ⟨w.heap.size,0,none⟩))).put (some 3) (.pointer (some ⟨w.heap.size + 1,0,none⟩))=a2 at e0 e2 e3 es ed ⊢
 subst hT
 have hlt:=rUv_lt r
 have hR2:RdS w2 g.tR S R r:=hR.keep hkA id id
 generalize hfin:jq_ (rUv r).1 [] (rUv r).2=fin
 have hkA':Keeps (·=R) w w2:=hkA.mono fun _ _ h=>h.elim
 refine qh_ ?_
 rw [qr_]
 refine .seq (R:=Rt (fun a' w'=>TI g S R w.heap.size (w.heap.size + 1) ntmps w fin (rUv r).1 a' w') fun _ _=>False) (.reg ?_) (fun a1 w1 hI=>?_) (fun e a w he hq=>by cases e <;> first | exact absurd rfl he | exact hq | exact hq.elim)
 ·refine qd_ ?_
  rw [qb_,e0]
  refine qv_ (vs:=#[pt R 0]) (ks.eU hUk) (by simp [qb_,gpe (show 7 < a2.tmps.size by omega)]) (ks.cU hUk w2 S R r hR2 hRS) fun e w3 hR3=>⟨_,hR3.1,?_⟩
  refine qg_ (wpList_nil ?_)
  have hk3:=hR3.2.2
  refine ⟨?_,?_,?_,?_,?_,?_,hkA'.trans hk3,?_,[],(rUv r).2,.map none,hfin,hR3.2.1,?_,.inl rfl,fun X _ _=>.inl ⟨rfl,rfl⟩⟩
  ·rw [gpo (by omega),gpo (by omega),gpo (by omega)];exact e0
  ·rw [gpo (by omega),gpo (by omega),gpo (by omega)];exact e2
  ·rw [gpo (by omega),gpo (by omega),gpo (by omega)];exact e3
  ·rw [gpe (by simp only [qa_];omega),qb_,gpe (by simp only [qa_];omega)]
  ·simp only [qa_];exact es
  ·simp only [qf_];exact ed
  ·rw [hk3.block _ (by omega) (by omega)];exact hb2
  ·rw [hk3.block _ (by omega) (by omega)];exact hb3
 ·refine tags_loop kt ks hUk hSk rfl hsE hset rfl rfl hS hRl hRS hnt hlt hI fun a3 w3 h3=>?_
  obtain ⟨t,r',mm,hfin',hrd3,hb33,_,htg⟩:=h3.ex
  have hs3:=h3.size
  have hz3:=h3.keeps.size
  refine qh_ (qj_ ?_)
  have hc3:∀ j v,[mm][j]?=some v->w3.cell? ⟨w.heap.size + 1,0 + j,none⟩=some v:=by
   intro j v hj
   cases j with
   | zero=>simp at hj;subst hj;simp [World.cell?,hb33]
   | succ j=>simp at hj
  refine wl_loadN (b:=w.heap.size + 1) (o:=0) (cs:=[mm]) (by rw [qb_];exact h3.g3) (hV.agg w3) (hV.size w3) hc3 ?_
  refine q8_ (g:=w.heap.size) (o:=0) (cur:=#[.map none]) (t:=g.tTags) (v:=.agg #[mm]) (vs:=[mm]) (by rw [qb_,gpo (by omega)];exact h3.g2) (by rw [qb_,gpe (by omega)]) rfl (hV.size w3) h3.b2 (by simp) ?_ (wpList_nil ?_)
  ·intro u hu
   simp at hu
   subst hu
   rcases htg (fun _=>False) (fun _ h=>h.elim) id with ⟨rfl,_⟩ | ⟨q,rfl,_⟩ <;> rfl
  ·refine qh_ (.ret ?_)
   have hb2':(w3.setRow w.heap.size (qt_ #[.map none] 0 [mm])).heap[w.heap.size]?=some (.cells (qt_ #[.map none] 0 [mm]) g.tTags (0,0)):=setRow_heap _ _ _ _ _ _ h3.b2
   have hk4:Keeps (·=w.heap.size) w3 (w3.setRow w.heap.size (qt_ #[.map none] 0 [mm])):=Keeps.setRow _ _ _ _ rfl
   refine ⟨by simp only [qf_];exact h3.defers,⟨w.heap.size,0,none⟩,.agg #[mm],by rw [gpo (by omega)];exact h3.g2,?_,mm,rfl,?_,?_,?_⟩
   ·have hl:=run_loadVar_agg (P:=P) hV hb2'
    exact hl
   ·rw [<- hfin'] at *
    exact hrd3.keep hk4 (by omega) (by omega)
   ·refine ⟨hk4.os.trans h3.keeps.os,hk4.tape.trans h3.keeps.tape,hk4.output.trans h3.keeps.output,by have:=hk4.size;omega,fun i hi hx=>?_⟩
    rw [hk4.block i (by omega) (by omega),h3.keeps.block i hi hx]
   ·intro X hX hXS
    have:=(htg (fun k=>X k \/ k=w.heap.size) (fun k hk=>by rcases hk with hk | hk;have:=hX k hk;omega;omega) (fun hk=>by rcases hk with hk | hk;exact hXS hk;omega)).keep (hk4.mono fun _ _ h=>.inr h)
    rw [<- hfin']
    exact this.mono fun _ _ h=>.inl h
end
end Go.Proofs.YtlmanancakaapaaGreatDoor.Kx
