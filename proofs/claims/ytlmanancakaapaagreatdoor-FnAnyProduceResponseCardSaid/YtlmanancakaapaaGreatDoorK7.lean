/-
  PLAIN LAWS AND CONTRACTS of messages, part 7 of 15: how readers and writers are printed, what they do, what the reference writes, and that what is written is read as the same. Nothing of a statement stands here.
-/
import Derived.Test.YtlmanancakaapaaGreatDoorK1
import Derived.Test.YtlmanancakaapaaGreatDoorK3
import Derived.Test.YtlmanancakaapaaGreatDoorK4
import Derived.Laws.IdiomStrings

namespace Go.Proofs.YtlmanancakaapaaGreatDoor.Kx
open Go
structure Kn where
 tRS:Nat
 tSl:Nat
 tB:Nat
 tInt:Nat
 tU8:Nat
 tI8:Nat
 tI16:Nat
 tU16:Nat
 tI32:Nat
 tU32:Nat
 tI64:Nat
 tU64:Nat
 tStr:Nat
 tUuid:Nat
 tBE:Nat
 tErr:Nat
 gBE:Nat
 gErr:Nat
 fU16:Nat
 fU32:Nat
 fU64:Nat
 fUv:Nat
 fR64:Nat
def kSrc (K:Kn) (s n:Nat):List Oper:=[mk (some n) (.move (tm s)),mk (some (n + 1)) (.nilCheck (tm n)),mk (some (n + 2)) (.fieldAddr K.tRS (tm (n + 1)) 0),mk (some (n + 3)) (.load K.tSl (tm (n + 2)))]
def kLenLt (K:Kn) (k:Nat) (A B:GC):GC:=gIf 5 6 (fun n=>kSrc K 0 n++[bi (some (n + 4)) .len [tm (n + 3)] [K.tSl] K.tInt,mk (some (n + 5)) (.binOp .lss K.tInt (tm (n + 4)) (ki .i64 k) 0)]) A B
def kFailAt (K:Kn) (s:Nat) (z:Value):GC:=gS [qu_ 3 fun n=>[mk (some n) (.move (tm 0)),mk (some (n + 1)) (.nilCheck (tm n)),mk (some (n + 2)) (.fieldAddr K.tRS (tm (n + 1)) 1),mk none (.store K.tB (tm (n + 2)) (.const (.bool true)))],
 qu_ 3 fun n=>[mk (some n) (.move (tm 0)),mk (some (n + 1)) (.nilCheck (tm n)),mk (some (n + 2)) (.fieldAddr K.tRS (tm (n + 1)) 0),mk none (.store K.tSl (tm (n + 2)) (.const (.slice none 0 0)))],ji_ s z,q3_ .ret]
def kFail (K:Kn) (z:Value):GC:=kFailAt K 2 z
def kAdv (K:Kn) (k:Nat):GC:=qu_ 8 fun n=>mk (some n) (.move (tm 0)) :: (kSrc K 0 (n + 1)++[mk (some (n + 5)) (.slice K.tSl (tm (n + 4)) (some (ki .i64 k)) none none),mk (some (n + 6)) (.nilCheck (tm n)),mk (some (n + 7)) (.fieldAddr K.tRS (tm (n + 6)) 0),mk none (.store K.tSl (tm (n + 7)) (tm (n + 5)))])
def kAdvS (K:Kn) (l:Nat):GC:=qu_ 9 fun n=>mk (some n) (.move (tm 0)) :: (kSrc K 0 (n + 1)++[mk (some (n + 5)) (.move (tm l)),mk (some (n + 6)) (.slice K.tSl (tm (n + 4)) (some (tm (n + 5))) none none),mk (some (n + 7)) (.nilCheck (tm n)),mk (some (n + 8)) (.fieldAddr K.tRS (tm (n + 7)) 0),mk none (.store K.tSl (tm (n + 8)) (tm (n + 6)))])
structure KT (P:Program) (g:G) (K:Kn):Prop where
 mixed:P.follows .mixedOrders=true
 f0:zj_ P K.tRS 0 K.tSl 0 false 1
 f1:zj_ P K.tRS 1 K.tB 1 false 1
 sl:P.underlying K.tSl=some (.slice K.tU8)
 u8:jp_ P K.tU8 false 1
 dU8:P.underlying K.tU8=some (.int .u8)
 dI8:za_ K.tI8=true->P.underlying K.tI8=some (.int .i8)
 dI16:P.underlying K.tI16=some (.int .i16)
 dI32:P.underlying K.tI32=some (.int .i32)
 dU32:P.underlying K.tU32=some (.int .u32)
 dInt:P.underlying K.tInt=some (.int .i64)
section
variable {P:Program} {g:G} {K:Kn} {T S R:Nat} {r:RS} {x n:Nat} {KK:Act->World->Prop} {Q:Exit->Act->World->Prop} {a:Act} {w:World}
def RdC (w:World) (T S R:Nat) (v:Value) (r:RS):Prop:=w.heap[R]?=some (.cells #[v,.bool r.bad] T (0,0))/\jz_ w S v r
theorem jz_.len {v:Value} (h:jz_ w S v r):∃ base c,v=.slice base r.src.length c/\(base=none->r.src=[]/\c=0/\r.nl=true)/\r.src.length<=c/\c<=maxLen/\∀ b,base=some b->∃ o,b=⟨S,o,none⟩/\r.nl=false/\S < w.heap.size/\OctAt w S o r.src:=by
 rcases h with ⟨h1,h2,h3⟩ | ⟨o,c,h1,h2,h3,h4,h5,h6⟩
 ·exact ⟨none,0,by rw [h1,h2];rfl,fun _=>⟨h2,rfl,h3⟩,by rw [h2];simp,by simp,fun b hb=>(by cases hb)⟩
 ·exact ⟨some ⟨S,o,none⟩,c,h1,fun h=>(by cases h),h3,h4,fun b hb=>(by cases hb;exact ⟨o,rfl,h2,h5,h6⟩)⟩
theorem wl_src (kt:KT P g K) {ops:Array Oper} {l:List Oper} {s:Nat} {v:Value} (hs:a.get s=pt R 0) (hR:RdC w T S R v r) (hn:n + 4<=a.tmps.size) (h:∀ a',Pv n 0 0 n a a'->a'.get (n + 3)=v->wpList P ops Q l a' w):wpList P ops Q (kSrc K s n++l) a w:=by
 have hc:w.cell? ⟨R,0 + 0,none⟩=some v:=by simp [World.cell?,hR.1]
 show wpList P ops Q (mk (some n) (.move (tm s)) :: mk (some (n + 1)) (.nilCheck (tm n)) :: mk (some (n + 2)) (.fieldAddr K.tRS (tm (n + 1)) 0) :: mk (some (n + 3)) (.load K.tSl (tm (n + 2))) :: l) a w
 refine qd_ ?_
 rw [qb_,hs]
 refine qp_ (by rw [qb_,gpe (by omega)];rfl) ?_
 refine ju_ (by rw [qb_,gpe (by simp only [qa_];omega)]) kt.f0 ?_
 refine q5_ (by rw [qb_,gpe (by simp only [qa_];omega)]) (kt.f0.var.agg _) hc ?_
 exact h _ (((((Pv.refl _ _ _ _ _).put _ (by omega)).put _ (by omega)).put _ (by omega)).put _ (by omega)) (gpe (by simp only [qa_];omega))
theorem k_lenLt (kt:KT P g K) {v:Value} {k:Nat} {A B:GC} (h0:a.get 0=pt R 0) (hR:RdC w T S R v r) (hn:n + 6<=a.tmps.size)
  (h:∀ a',Pv n 0 0 n a a'->if r.src.length < k then NWP P (A (n + 6)).1 Q a' w else NWP P (B (A (n + 6)).2).1 Q a' w):NWP P (kLenLt K k A B n).1 Q a w:=by
 obtain ⟨base,c,hv,_⟩:=hR.2.len
 subst hv
 have key:∀ (b:Bool) (K':Act->World->Prop),b=decide ((r.src.length:Int) < (k:Int))->(∀ a',a'.eval (tm (n + 5))=.bool b->Pv n 0 0 n a a'->K' a' w) ->
   wpList P (kSrc K 0 n++[bi (some (n + 4)) .len [tm (n + 3)] [K.tSl] K.tInt,mk (some (n + 5)) (.binOp .lss K.tInt (tm (n + 4)) (ki .i64 k) 0)]).toArray (Exit.then K' Q) (kSrc K 0 n++[bi (some (n + 4)) .len [tm (n + 3)] [K.tSl] K.tInt,mk (some (n + 5)) (.binOp .lss K.tInt (tm (n + 4)) (ki .i64 k) 0)]) a w:=by
  intro b K' hb hK
  refine wl_src kt h0 hR (by omega) fun a1 hp1 hg1=>?_
  have hs1:=hp1.size
  refine wl_len (by rw [qb_,hg1]) kt.sl ?_
  refine q9_ (b:=b) (p:=(r.src.length:Int)) (q:=k) (k:=.i64) (by rw [qb_,gpe (by omega)]) rfl (.inr (.inr (.inl ⟨rfl,hb⟩))) (wpList_nil (hK _ (by rw [qb_,gpe (by simp only [qa_];omega)]) ((hp1.put _ (by omega)).put _ (by omega))))
 by_cases hlt:r.src.length < k
 ·refine z3_ (key true _ (by simp;omega) fun a' he hp=>⟨he,?_⟩)
  have:=h a' hp
  rwa [if_pos hlt] at this
 ·refine z2_ (key false _ (by simp;omega) fun a' he hp=>⟨he,?_⟩)
  have:=h a' hp
  rwa [if_neg hlt] at this
theorem k_failAt (kt:KT P g K) {v z:Value} {E:Act->World->Prop} {N:Act->World->Prop} (h0:a.get 0=pt R 0) (hR:RdC w T S R v r) (_hRS:S ≠ R) (hn:n + 6<=a.tmps.size) {s:Nat} (h2n:s < n)
  (h:∀ a' w',a'.defers=a.defers->a'.get s=z->RdS w' T S R .fail->Keeps (·=R) w w'->E a' w'):NWP P (kFailAt K s z n).1 (Rt N E) a w:=by
 refine q2_ (qc_ (qj_ (qd_ ?_)))
 rw [qb_,h0]
 refine qp_ (by rw [qb_,gpe (by omega)];rfl) ?_
 refine ju_ (by rw [qb_,gpe (by simp only [qa_];omega)]) kt.f1 ?_
 refine q8_ (cur:=#[v,.bool r.bad]) (t:=T) (v:=.bool true) (vs:=[.bool true]) (by rw [qb_,gpe (by simp only [qa_];omega)]) rfl rfl (kt.f1.var.size _) hR.1 (by simp) (fun u hu=>by simp at hu;rw [hu];rfl) (wpList_nil ?_)
 have e1:qt_ #[v,.bool r.bad] (0 + 1) [.bool true]=#[v,.bool true]:=by simp [qt_]
 rw [e1]
 have hp1:Pv n 0 0 n a (((a.put (some n) (pt R 0)).put (some (n + 1)) (.pointer (some ⟨R,0,none⟩))).put (some (n + 2)) (.pointer (some ⟨R,0 + 1,none⟩))):=(((Pv.refl _ _ _ _ _).put _ (by omega)).put _ (by omega)).put _ (by omega)
 generalize ((a.put (some n) (pt R 0)).put (some (n + 1)) (.pointer (some ⟨R,0,none⟩))).put (some (n + 2)) (.pointer (some ⟨R,0 + 1,none⟩))=a1 at hp1 ⊢
 have hs1:=hp1.size
 have hB1:(w.setRow R #[v,.bool true]).heap[R]?=some (.cells #[v,.bool true] T (0,0)):=setRow_heap _ _ _ _ _ _ hR.1
 rw [show (qu_ 3 (fun n=>[mk (some n) (.move (tm 0)),mk (some (n + 1)) (.nilCheck (tm n)),mk (some (n + 2)) (.fieldAddr K.tRS (tm (n + 1)) 1),mk none (.store K.tB (tm (n + 2)) (.const (.bool true)))]) n).2=n + 3 from rfl]
 refine qc_ (qj_ (qd_ ?_))
 rw [qb_,hp1.get 0 (by omega) (.inr ⟨by omega,by omega⟩),h0]
 refine qp_ (by rw [qb_,gpe (by omega)];rfl) ?_
 refine ju_ (by rw [qb_,gpe (by simp only [qa_];omega)]) kt.f0 ?_
 refine q8_ (cur:=#[v,.bool true]) (t:=T) (v:=.slice none 0 0) (vs:=[.slice none 0 0]) (by rw [qb_,gpe (by simp only [qa_];omega)]) rfl rfl (kt.f0.var.size _) hB1 (by simp) (fun u hu=>by simp at hu;rw [hu];rfl) (wpList_nil ?_)
 have e2:qt_ #[v,.bool true] (0 + 0) [.slice none 0 0]=#[.slice none 0 0,.bool true]:=by simp [qt_]
 rw [e2]
 refine qc_ (xa_ (x:=s) (m:=0) (k0:=0) (.inl rfl) (by simp only [qa_];omega) fun a2 hp2 hg2=>?_)
 refine qc_ (.ret (h a2 _ ?_ hg2 ?_ ?_))
 ·rw [hp2.defers];simp only [qf_];exact hp1.defers
 ·exact ⟨.slice none 0 0,setRow_heap _ _ _ _ _ _ hB1,.inl ⟨rfl,rfl,rfl⟩⟩
 ·exact (Keeps.setRow (fun k=>k=R) _ _ _ rfl).trans (Keeps.setRow (fun k=>k=R) _ _ _ rfl)
theorem k_fail (kt:KT P g K) {v z:Value} {E:Act->World->Prop} {N:Act->World->Prop} (h0:a.get 0=pt R 0) (hR:RdC w T S R v r) (hRS:S ≠ R) (hn:n + 6<=a.tmps.size) (h2n:2 < n)
  (h:∀ a' w',a'.defers=a.defers->a'.get 2=z->RdS w' T S R .fail->Keeps (·=R) w w'->E a' w'):NWP P (kFail K z n).1 (Rt N E) a w:=k_failAt kt h0 hR hRS hn h2n h
def cutAt (v:Value) (k:Nat):Value:=
 match v with
 | .slice base n c=>.slice (if c=k then base else base.map (·.add k)) (n - k) (c - k)
 | v=>v
theorem jz_.cut {v:Value} {k:Nat} (h:jz_ w S v r) (hk:k<=r.src.length):jz_ w S (cutAt v k) ⟨r.src.drop k,r.bad,r.nl⟩:=by
 rcases h with ⟨h1,h2,h3⟩ | ⟨o,c,h1,h2,h3,h4,h5,h6⟩
 ·have:k=0:=by rw [h2] at hk;simpa using hk
  subst this
  refine .inl ⟨by rw [h1];rfl,by simp [h2],h3⟩
 ·subst h1
  by_cases hc:c=k
  ·refine .inr ⟨o,c - k,?_,h2,by simp;omega,by omega,h5,?_⟩
   ·simp [cutAt,hc]
   ·have:r.src.length=k:=by omega
    intro i x hi
    simp [this] at hi
  ·refine .inr ⟨o + k,c - k,?_,h2,by simp;omega,by omega,h5,fun i x hi=>?_⟩
   ·simp [cutAt,hc,Addr.add_lit]
   ·have:=h6 (k + i) x (by simpa using hi)
    rwa [<- Nat.add_assoc] at this
theorem wl_sliceLo (kt:KT P g K) {ops:Array Oper} {l:List Oper} {d:Option Nat} {y lo:Operand} {v:Value} {k:Nat} (hy:a.eval y=v) (hv:jz_ w S v r) (hlo:a.eval lo=.int .i64 k) (hk:k<=r.src.length)
  (h:wpList P ops Q l (a.put d (cutAt v k)) w):wpList P ops Q (mk d (.slice K.tSl y (some lo) none none) :: l) a w:=by
 refine qn_ ?_ h
 obtain ⟨base,c,hvv,hb0,hlc,hcm,hb⟩:=hv.len
 subst hvv
 have hs:=kt.u8.size w
 have hk1:k<=c:=by omega
 have hk0:¬ ((k:Int) < 0):=by omega
 simp [execOp,mk,hy,hlo,Instr.sliceAt,Instr.slice,run_underlying kt.sl,Instr.sliceBounds,Instr.sliceBound,asIntOf,hs,hk,cutAt]
theorem k_adv (kt:KT P g K) {v:Value} {k:Nat} (h0:a.get 0=pt R 0) (hR:RdC w T S R v r) (hk:k<=r.src.length) (hRS:S ≠ R) (hn:n + 8<=a.tmps.size) (h0n:0 < n)
  (h:∀ a',Pv n 0 0 n a a'->RdS (w.setRow R #[cutAt v k,.bool r.bad]) T S R ⟨r.src.drop k,r.bad,r.nl⟩->KK a' (w.setRow R #[cutAt v k,.bool r.bad])):NWP P (kAdv K k n).1 (Exit.then KK Q) a w:=by
 refine qj_ (qd_ ?_)
 rw [qb_,h0]
 refine wl_src kt (v:=v) (by rw [gpo (by omega)];exact h0) hR (by simp only [qa_];omega) fun a1 hp1 hg1=>?_
 have hs1:=hp1.size
 rw [qa_] at hs1
 have hgn:a1.get n=pt R 0:=by rw [hp1.get n (by omega) (.inr ⟨by omega,by omega⟩),gpe (by omega)]
 have hp01:Pv n 0 0 n a a1:=((Pv.refl n 0 0 n a).put (pt R 0) (by omega)).trans ⟨hp1.size,hp1.defers,fun s hs hh=>hp1.get s (by omega) (.inr ⟨by omega,by omega⟩)⟩
 refine wl_sliceLo kt (k:=k) (by rw [qb_];exact hg1) hR.2 rfl hk ?_
 refine qp_ (by rw [qb_,gpo (by omega),hgn];rfl) ?_
 refine ju_ (by rw [qb_,gpe (by simp only [qa_];omega)]) kt.f0 ?_
 obtain ⟨h1c,h2c⟩:=oneCell_src (hR.2.cut hk)
 refine q8_ (cur:=#[v,.bool r.bad]) (t:=T) (v:=cutAt v k) (vs:=[cutAt v k]) (by rw [qb_,gpe (by simp only [qa_];omega)]) (by rw [qb_,gpo (by omega),gpo (by omega),gpe (by omega)]) (by rw [h2c]) (kt.f0.var.size _) hR.1 (by simp)
  (fun u hu=>by simp at hu;rw [hu];exact h1c) (wpList_nil ?_)
 have e1:qt_ #[v,.bool r.bad] (0 + 0) [cutAt v k]=#[cutAt v k,.bool r.bad]:=by simp [qt_]
 rw [e1]
 refine h _ (((hp01.put _ (by omega)).put _ (by omega)).put _ (by omega)) ⟨_,setRow_heap _ _ _ _ _ _ hR.1,(hR.2.cut hk).keep (Keeps.setRow (fun k=>k=R) _ _ _ rfl) hRS⟩
end
section
variable {P:Program} {g:G} {K:Kn} {T S R:Nat} {r:RS} {x n:Nat} {KK:Act->World->Prop} {Q:Exit->Act->World->Prop} {a:Act} {w:World}
theorem evF_append (I:World->Prop):∀ (l1 l2:List Oper) (a:Act) (K':Act->Prop),evF P I l1 a (fun a'=>evF P I l2 a' K')->evF P I (l1++l2) a K'
 | [],_,_,_,h=>h
 | _ :: l1,l2,_a,K',⟨v,h1,h2⟩=>⟨v,h1,evF_append I l1 l2 _ K' h2⟩
theorem ev_move {I:World->Prop} {d:Nat} {y:Operand} {l:List Oper} {K':Act->Prop} (h:evF P I l (a.put (some d) (a.eval y)) K'):evF P I (mk (some d) (.move y) :: l) a K':=⟨_,fun _ _=>rfl,h⟩
theorem ev_nilCheck {I:World->Prop} {d:Nat} {y:Operand} {p:Addr} {l:List Oper} {K':Act->Prop} (hy:a.eval y=.pointer (some p)) (h:evF P I l (a.put (some d) (.pointer (some p))) K'):evF P I (mk (some d) (.nilCheck y) :: l) a K':=
 ⟨_,fun w _=>by simp [execOp,mk,hy],h⟩
theorem ev_fld {I:World->Prop} {d:Nat} {y:Operand} {F TT k B O off sz:Nat} {agg:Bool} {l:List Oper} {K':Act->Prop} (hy:a.eval y=.pointer (some ⟨B,O,none⟩)) (hF:zj_ P TT k F off agg sz)
  (h:evF P I l (a.put (some d) (.pointer (some ⟨B,O + off,none⟩))) K'):evF P I (mk (some d) (.fieldAddr TT y k) :: l) a K':=by
 obtain ⟨fs,f,h1,h2,h3,h4⟩:=hF.fld
 obtain ⟨q,rfl⟩:∃ q,sz=q + 1:=⟨sz - 1,by have:=hF.pos;omega⟩
 have hsz:∀ w,(sizeOf f.type).run P w=.ok (q + 1) w:=fun w=>by rw [h4];exact hF.var.size w
 exact ⟨_,fun w _=>by simp [execOp,mk,hy,Instr.fieldAt,run_underlying h1,h2,h3,fieldPlace,hsz,Instr.sureAddr,Addr.add_lit],h⟩
theorem ev_load1 {I:World->Prop} {d:Nat} {y:Operand} {F:Nat} {p:Addr} {v:Value} {l:List Oper} {K':Act->Prop} (hy:a.eval y=.pointer (some p)) (hF:∀ w,(isAgg F).run P w=.ok false w) (hv:∀ w,I w->w.cell? p=some v)
  (h:evF P I l (a.put (some d) v) K'):evF P I (mk (some d) (.load F y) :: l) a K':=
 ⟨_,fun w hI=>by simp [execOp,mk,hy,Instr.loadAt,Instr.sureAddr,loadVar,hF,load,hv w hI,Sem.run],h⟩
theorem ev_index {I:World->Prop} {d:Nat} {y z:Operand} {F E' b o m c i sz:Nat} {k:IntKind} {l:List Oper} {K':Act->Prop} (hy:a.eval y=.slice (some ⟨b,o,none⟩) m c) (hz:a.eval z=.int k i) (hi:i < m) (hF:P.underlying F=some (.slice E'))
  (hs:∀ w,(sizeOf E').run P w=.ok sz w) (h:evF P I l (a.put (some d) (.pointer (some ⟨b,o + i * sz,none⟩))) K'):evF P I (mk (some d) (.indexAddr F y z) :: l) a K':=
 ⟨_,fun w _=>by simp [execOp,mk,hy,hz,Instr.indexAt,asIntOf,run_underlying hF,hs,hi,Addr.add_lit],h⟩
theorem ev_conv {I:World->Prop} {d:Nat} {y:Operand} {A B:Nat} {k k':IntKind} {m:Int} {l:List Oper} {K':Act->Prop} (hy:a.eval y=.int k m) (hA:P.underlying A=some (.int k)) (hB:P.underlying B=some (.int k'))
  (h:evF P I l (a.put (some d) (.int k' (k'.wrap m))) K'):evF P I (mk (some d) (.convert A B y) :: l) a K':=
 ⟨_,fun w _=>by simp [execOp,mk,hy,convert,run_underlying hA,run_underlying hB,Conv.intToInt],h⟩
theorem ev_bin {I:World->Prop} {d:Nat} {op:BinOp} {A:Nat} {y z:Operand} {k k2:IntKind} {m m2:Int} {v:Value} {l:List Oper} {K':Act->Prop} (hy:a.eval y=.int k m) (hz:a.eval z=.int k2 m2)
  (hop:∀ w,(binOp op A (.int k m) (.int k2 m2)).run P w=.ok v w) (h:evF P I l (a.put (some d) v) K'):evF P I (mk (some d) (.binOp op A y z 0) :: l) a K':=by
 refine ⟨v,fun w _=>?_,h⟩
 have he:(eqGuard op A y z (.int k m) (.int k2 m2)).run P w=.ok () w:=by
  unfold eqGuard
  cases op <;> simp
 simp only [execOp,mk,hy,hz,Sem.run_bind,he,Result.andThen_ok,hop,Sem.run_pure]
def uk (k:IntKind):Prop:=k=.u16 \/ k=.u32 \/ k=.u64
theorem uk_wrap {k:IntKind} (hk:uk k) {m:Nat} (h:m < 2 ^ k.bits):k.wrap (m:Int)=m:=by
 rcases hk with rfl | rfl | rfl <;> simp [IntKind.wrap,IntKind.bits,IntKind.signed] at h ⊢ <;> omega
theorem run_shl {k:IntKind} (hk:uk k) {A:Nat} {b s:Nat} (hb:b < 256) (hs:s + 8<=k.bits) (w:World):(binOp .shl A (.int k (b:Int)) (.int .u64 (s:Int))).run P w=.ok (.int k ((b * 2 ^ s:Nat):Int)) w:=by
 have h1:¬ ((s:Int) < 0):=by omega
 have h2:min s k.bits=s:=by omega
 have h3:b * 2 ^ s < 2 ^ k.bits:=by
  have:2 ^ (s + 8)<=2 ^ k.bits:=Nat.pow_le_pow_right (by omega) hs
  rw [Nat.pow_add] at this
  have h4:b * 2 ^ s < 2 ^ s * 2 ^ 8:=by
   rw [Nat.mul_comm]
   exact Nat.mul_lt_mul_of_pos_left (by omega) (Nat.two_pow_pos s)
  omega
 have h5:((b:Int) * 2 ^ s)=((b * 2 ^ s:Nat):Int):=by simp
 simp only [binOp,Op.shift,h1,if_false,Int.toNat_natCast,h2,h5,uk_wrap hk h3,Sem.run_pure]
theorem run_or {k:IntKind} (hk:uk k) {A:Nat} {acc b s:Nat} (ha:acc < 2 ^ s) (hb:b < 256) (hs:s + 8<=k.bits) (w:World):(binOp .or A (.int k (acc:Int)) (.int k ((b * 2 ^ s:Nat):Int))).run P w=.ok (.int k ((b * 2 ^ s + acc:Nat):Int)) w:=by
 have hp:2 ^ (s + 8)<=2 ^ k.bits:=Nat.pow_le_pow_right (by omega) hs
 rw [Nat.pow_add] at hp
 have h4:b * 2 ^ s + 2 ^ s<=2 ^ s * 2 ^ 8:=by
  have:(b + 1) * 2 ^ s<=256 * 2 ^ s:=Nat.mul_le_mul_right _ (by omega)
  rw [Nat.add_mul,Nat.one_mul] at this
  omega
 have h3:b * 2 ^ s + acc < 2 ^ k.bits:=by omega
 have e1:BitVec.ofInt k.bits (acc:Int)=BitVec.ofNat k.bits acc:=by simp
 have e2:BitVec.ofInt k.bits ((b * 2 ^ s:Nat):Int)=BitVec.ofNat k.bits (b * 2 ^ s):=BitVec.ofInt_natCast ..
 have e3:acc ||| b * 2 ^ s=b * 2 ^ s + acc:=by
  rw [Nat.or_comm,Nat.mul_comm,<- Nat.two_pow_add_eq_or_of_lt ha]
 have e4:(BitVec.ofNat k.bits acc ||| BitVec.ofNat k.bits (b * 2 ^ s)).toNat=b * 2 ^ s + acc:=by
  rw [BitVec.toNat_or,BitVec.toNat_ofNat,BitVec.toNat_ofNat,Nat.mod_eq_of_lt (by omega),Nat.mod_eq_of_lt (by omega),e3]
 have hkk:(k ≠ k)=False:=by simp
 simp only [binOp,hkk,if_false,Op.intBits,e1,e2,e4,uk_wrap hk h3,Sem.run_pure]
def beStep (K:Kn) (tK n acc i s:Nat):List Oper:=[mk (some n) (.move (tm 1)),mk (some (n + 1)) (.indexAddr K.tSl (tm n) (ki .i64 i)),mk (some (n + 2)) (.load K.tU8 (tm (n + 1))),mk (some (n + 3)) (.convert K.tU8 tK (tm (n + 2))),
 mk (some (n + 4)) (.binOp .shl tK (tm (n + 3)) (ki .u64 s) 0),mk (some (n + 5)) (.binOp .or tK (tm acc) (tm (n + 4)) 0)]
def beChain (K:Kn) (tK k:Nat):Nat->Nat->Nat->List Oper
 | 0,_,_=>[]
 | m + 1,j,n=>beStep K tK n (n - 1) (k - 1 - j) (8 * j)++beChain K tK k m (j + 1) (n + 6)
def beFree (K:Kn) (tK k:Nat):List Oper:=[mk (some 8) (.move (tm 1)),mk (some 9) (.indexAddr K.tSl (tm 8) (ki .i64 ((k - 1:Nat):Int))),mk (some 10) (.load K.tU8 (tm 9)),mk (some 11) (.convert K.tU8 tK (tm 10))]++beChain K tK k (k - 1) 1 12
def gBig (K:Kn) (tK:Nat) (kind:IntKind) (k:Nat):Code:=
 sq [rg [mk (some 2) (.box K.tBE (tm 0)),mk (some 4) (.assign (ki kind 0))],
  rg [mk (some 5) (.move (tm 1)),mk (some 6) (.indexAddr K.tSl (tm 5) (ki .i64 ((k - 1:Nat):Int))),mk (some 7) (.load K.tU8 (tm 6))],
  .region 1 (beFree K tK k++[mk (some 4) (.assign (tm (12 + 6 * (k - 1) - 1)))]).toArray true,.ret]
theorem unbe_cons (b:UInt8) (l:Bs):unbe (b :: l)=b.toNat * 256 ^ l.length + unbe l:=by
 have h:∀ (l:Bs) (a:Nat),l.foldl (fun a b=>a * 256 + b.toNat) a=a * 256 ^ l.length + l.foldl (fun a b=>a * 256 + b.toNat) 0:=by
  intro l
  induction l with
  | nil=>intro a;simp
  | cons b l ih=>
   intro a
   simp only [List.foldl_cons,List.length_cons]
   rw [ih,ih (0 * 256 + b.toNat)]
   rw [Nat.pow_succ,Nat.add_mul,Nat.zero_mul,Nat.zero_add,Nat.mul_assoc,Nat.mul_comm 256 (256 ^ l.length)]
   omega
 simp only [unbe,List.foldl_cons]
 rw [h]
 simp
theorem unbe_lt (l:Bs):unbe l < 256 ^ l.length:=by
 induction l with
 | nil=>simp [unbe]
 | cons b l ih=>
  rw [unbe_cons,List.length_cons,Nat.pow_succ]
  have:=UInt8.toNat_lt b
  have h:(b.toNat + 1) * 256 ^ l.length<=256 * 256 ^ l.length:=Nat.mul_le_mul_right _ (by omega)
  rw [Nat.add_mul,Nat.one_mul] at h
  omega
theorem ev_chain (kt:KT P g K) {tK k:Nat} {kind:IntKind} (hkind:uk kind) (hK:P.underlying tK=some (.int kind)) {I:World->Prop} {o len c:Nat} {src:Bs} (hI:∀ w,I w->OctAt w S o src) (hlen:len=src.length) (hk:k<=src.length) (hb:8 * k<=kind.bits) :
  ∀ (m j n:Nat) (a:Act) (K':Act->Prop),m + j=k->1<=j->12<=n->n + 6 * m<=a.tmps.size->a.get 1=.slice (some ⟨S,o,none⟩) len c->a.get (n - 1)=.int kind ((unbe ((src.take k).drop (k - j)):Nat):Int) ->
   (∀ a',a'.tmps.size=a.tmps.size->a'.defers=a.defers->a'.get (n + 6 * m - 1)=.int kind ((unbe (src.take k):Nat):Int)->K' a')->evF P I (beChain K tK k m j n) a K'
 | 0,j,n,a,K',hm,hj,hn,hs,h1,hacc,h=>by
  have:j=k:=by omega
  subst this
  exact h a rfl rfl (by simpa using hacc)
 | m + 1,j,n,a,K',hm,hj,hn,hs,h1,hacc,h=>by
  refine evF_append I _ _ a K' ?_
  have hjk:k - 1 - j < src.length:=by omega
  obtain ⟨b,hbb⟩:∃ b,src[k - 1 - j]?=some b:=⟨src[k - 1 - j],by simp [hjk]⟩
  have hb256:=UInt8.toNat_lt b
  have hwb:IntKind.wrap kind (b.toNat:Int)=b.toNat:=uk_wrap hkind (by rcases hkind with rfl | rfl | rfl <;> simp [IntKind.bits] <;> omega)
  have hdrop:(src.take k).drop (k - (j + 1))=b :: (src.take k).drop (k - j):=by
   have e:k - (j + 1)=k - 1 - j:=by omega
   have hl:k - 1 - j < (src.take k).length:=by simp;omega
   rw [e,List.drop_eq_getElem_cons hl]
   congr 1
   ·have:=(List.getElem?_eq_some_iff.1 hbb).2
    simpa using this
   ·congr 1
    omega
  have hlen2:((src.take k).drop (k - j)).length=j:=by simp;omega
  have hacclt:unbe ((src.take k).drop (k - j)) < 2 ^ (8 * j):=by
   have:=unbe_lt ((src.take k).drop (k - j))
   rw [hlen2] at this
   have e:(256:Nat) ^ j=2 ^ (8 * j):=by rw [Nat.pow_mul]
   omega
  unfold beStep
  refine ev_move ?_
  rw [qb_,h1]
  refine ev_index (i:=k - 1 - j) (k:=.i64) (sz:=1) (by rw [qb_,gpe (by omega)]) rfl (by omega) kt.sl (fun w=>kt.u8.size w) ?_
  refine ev_load1 (v:=.int .u8 (b.toNat:Int)) (by rw [qb_,gpe (by simp only [qa_];omega)]) (fun w=>kt.u8.agg w) (fun w hw=>by rw [Nat.mul_one];exact hI w hw _ b hbb) ?_
  refine ev_conv (k:=.u8) (k':=kind) (m:=(b.toNat:Int)) (by rw [qb_,gpe (by simp only [qa_];omega)]) kt.dU8 hK ?_
  rw [hwb]
  refine ev_bin (k:=kind) (k2:=.u64) (m:=(b.toNat:Int)) (m2:=((8 * j:Nat):Int)) (by rw [qb_,gpe (by simp only [qa_];omega)]) rfl (fun w=>run_shl hkind hb256 (by omega) w) ?_
  refine ev_bin (k:=kind) (k2:=kind) (by rw [qb_,gpo (by omega),gpo (by omega),gpo (by omega),gpo (by omega),gpo (by omega)];exact hacc) (by rw [qb_,gpe (by simp only [qa_];omega)])
   (fun w=>run_or hkind hacclt hb256 (by omega) w) ?_
  show evF P I (beChain K tK k m (j + 1) (n + 6)) _ K'
  refine ev_chain (c:=c) kt hkind hK hI hlen hk hb m (j + 1) (n + 6) _ K' (by omega) (by omega) (by omega) (by simp only [qa_];omega) ?_ ?_ fun a' hs' hd' hg'=>h a' (by rw [hs'];simp only [qa_]) (by rw [hd'];simp only [qf_]) (by rw [show n + 6 * (m + 1) - 1=n + 6 + 6 * m - 1 by omega];exact hg')
  ·rw [gpo (by omega),gpo (by omega),gpo (by omega),gpo (by omega),gpo (by omega),gpo (by omega)];exact h1
  ·rw [show n + 6 - 1=n + 5 by omega,gpe (by simp only [qa_];omega),hdrop,unbe_cons,hlen2]
   have e:(256:Nat) ^ j=2 ^ (8 * j):=by rw [Nat.pow_mul]
   rw [e]
theorem ev_free (kt:KT P g K) {tK k:Nat} {kind:IntKind} (hkind:uk kind) (hK:P.underlying tK=some (.int kind)) {I:World->Prop} {o len c:Nat} {src:Bs} (hI:∀ w,I w->OctAt w S o src) (hlen:len=src.length) (hk:k<=src.length) (hk0:0 < k) (hb:8 * k<=kind.bits)
  {K':Act->Prop} (hs:12 + 6 * (k - 1)<=a.tmps.size) (h1:a.get 1=.slice (some ⟨S,o,none⟩) len c)
  (h:∀ a',a'.tmps.size=a.tmps.size->a'.defers=a.defers->a'.get (12 + 6 * (k - 1) - 1)=.int kind ((unbe (src.take k):Nat):Int)->K' a'):evF P I (beFree K tK k) a K':=by
 refine evF_append I _ _ a K' ?_
 have hjk:k - 1 < src.length:=by omega
 obtain ⟨b,hbb⟩:∃ b,src[k - 1]?=some b:=⟨src[k - 1],by simp [hjk]⟩
 have hb256:=UInt8.toNat_lt b
 have hwb:IntKind.wrap kind (b.toNat:Int)=b.toNat:=uk_wrap hkind (by rcases hkind with rfl | rfl | rfl <;> simp [IntKind.bits] <;> omega)
 have hdrop:(src.take k).drop (k - 1)=[b]:=by
  have hl:k - 1 < (src.take k).length:=by simp;omega
  rw [List.drop_eq_getElem_cons hl]
  congr 1
  ·have:=(List.getElem?_eq_some_iff.1 hbb).2
   simpa using this
  ·apply List.drop_eq_nil_of_le
   simp
   omega
 refine ev_move ?_
 rw [qb_,h1]
 refine ev_index (i:=k - 1) (k:=.i64) (sz:=1) (by rw [qb_,gpe (by omega)]) rfl (by omega) kt.sl (fun w=>kt.u8.size w) ?_
 refine ev_load1 (v:=.int .u8 (b.toNat:Int)) (by rw [qb_,gpe (by simp only [qa_];omega)]) (fun w=>kt.u8.agg w) (fun w hw=>by rw [Nat.mul_one];exact hI w hw _ b hbb) ?_
 refine ev_conv (k:=.u8) (k':=kind) (m:=(b.toNat:Int)) (by rw [qb_,gpe (by simp only [qa_];omega)]) kt.dU8 hK ?_
 rw [hwb]
 show evF P I (beChain K tK k (k - 1) 1 12) _ K'
 refine ev_chain (c:=c) kt hkind hK hI hlen hk hb (k - 1) 1 12 _ K' (by omega) (by omega) (by omega) (by simp only [qa_];omega) ?_ ?_ fun a' hs' hd' hg'=>h a' (by rw [hs'];simp only [qa_]) (by rw [hd'];simp only [qf_]) hg'
 ·rw [gpo (by omega),gpo (by omega),gpo (by omega),gpo (by omega)];exact h1
 ·rw [show 12 - 1=11 from rfl,gpe (by simp only [qa_];omega),hdrop]
  simp [unbe]
theorem big_calls (kt:KT P g K) {f ntmps tK k:Nat} {kind:IntKind} (hfn:FnIs P f ntmps [4] (gBig K tK kind k)) (hnt:12 + 6 * (k - 1)<=ntmps) (hkind:uk kind) (hK:P.underlying tK=some (.int kind)) (hk0:0 < k) (hb:8 * k<=kind.bits) (_hbe:jp_ P K.tBE true 0)
  (hloud:∃ fl,xd_ (beFree K tK k++[mk (some 4) (.assign (tm (12 + 6 * (k - 1) - 1)))])=fl/\xc_ (beFree K tK k++[mk (some 4) (.assign (tm (12 + 6 * (k - 1) - 1)))]) fl=beFree K tK k/\j9_ (beFree K tK k++[mk (some 4) (.assign (tm (12 + 6 * (k - 1) - 1)))]) fl=[mk (some 4) (.assign (tm (12 + 6 * (k - 1) - 1)))])
  {v:Value} (hsrc:jz_ w S v r) (hlen:k<=r.src.length):Calls P f #[.agg #[],v] w fun e w'=>e=.returned (.int kind ((unbe (r.src.take k):Nat):Int))/\Keeps (fun _=>False) w w':=by
 obtain ⟨o,c,hv,hnl,hlc,hcm,hSl,hoct⟩:∃ o c,v=.slice (some ⟨S,o,none⟩) r.src.length c/\r.nl=false/\r.src.length<=c/\c<=maxLen/\S < w.heap.size/\OctAt w S o r.src:=by
  rcases hsrc with ⟨_,h2,_⟩ | h
  ·rw [h2] at hlen;simp at hlen;omega
  ·exact h
 subst hv
 refine hfn.calls kt.mixed (by simp) ?_
 have hsz:=jo_ #[.agg #[],.slice (some ⟨S,o,none⟩) r.src.length c] ntmps (by show 2<=ntmps;omega)
 have hg0:({ tmps:=#[.agg #[],.slice (some ⟨S,o,none⟩) r.src.length c]++Array.replicate (ntmps - (#[Value.agg #[],.slice (some ⟨S,o,none⟩) r.src.length c]:Array Value).size) undef,defers:=[] }:Act).get 0=.agg #[]:=by rw [ja_ _ _ _ (by simp)];rfl
 have hg1:({ tmps:=#[.agg #[],.slice (some ⟨S,o,none⟩) r.src.length c]++Array.replicate (ntmps - (#[Value.agg #[],.slice (some ⟨S,o,none⟩) r.src.length c]:Array Value).size) undef,defers:=[] }:Act).get 1=.slice (some ⟨S,o,none⟩) r.src.length c:=by rw [ja_ _ _ _ (by simp)];rfl
 have hd0:({ tmps:=#[.agg #[],.slice (some ⟨S,o,none⟩) r.src.length c]++Array.replicate (ntmps - (#[Value.agg #[],.slice (some ⟨S,o,none⟩) r.src.length c]:Array Value).size) undef,defers:=[] }:Act).defers=[]:=rfl
 have hsz':({ tmps:=#[.agg #[],.slice (some ⟨S,o,none⟩) r.src.length c]++Array.replicate (ntmps - (#[Value.agg #[],.slice (some ⟨S,o,none⟩) r.src.length c]:Array Value).size) undef,defers:=[] }:Act).tmps.size=ntmps:=hsz
 generalize ({ tmps:=#[.agg #[],.slice (some ⟨S,o,none⟩) r.src.length c]++Array.replicate (ntmps - (#[Value.agg #[],.slice (some ⟨S,o,none⟩) r.src.length c]:Array Value).size) undef,defers:=[] }:Act)=a at hg0 hg1 hd0 hsz' ⊢
 have hki:k - 1 < r.src.length:=by omega
 obtain ⟨b,hbb⟩:∃ b,r.src[k - 1]?=some b:=⟨r.src[k - 1],by simp [hki]⟩
 unfold gBig
 refine qh_ (qj_ ?_)
 refine qn_ (v:=.pointer (some ⟨w.heap.size,0,none⟩)) (w':=w.alloc (.cells #[] K.tBE (0,0))) ?_ (qg_ (wpList_nil ?_))
 ·have:a.eval (tm 0)=.agg #[]:=hg0
  simp [execOp,mk,this,Instr.box,newVar,newRow,newObj,Sem.run,Value.cells]
 have hk1:Keeps (fun _=>False) w (w.alloc (.cells #[] K.tBE (0,0))):=Keeps.alloc _ _ _
 have hs1:((a.put (some 2) (.pointer (some ⟨w.heap.size,0,none⟩))).put (some 4) ((a.put (some 2) (.pointer (some ⟨w.heap.size,0,none⟩))).eval (ki kind 0))).tmps.size=ntmps:=by simp only [qa_];exact hsz'
 have hg11:((a.put (some 2) (.pointer (some ⟨w.heap.size,0,none⟩))).put (some 4) ((a.put (some 2) (.pointer (some ⟨w.heap.size,0,none⟩))).eval (ki kind 0))).get 1=.slice (some ⟨S,o,none⟩) r.src.length c:=by rw [gpo (by omega),gpo (by omega)];exact hg1
 have hd1:((a.put (some 2) (.pointer (some ⟨w.heap.size,0,none⟩))).put (some 4) ((a.put (some 2) (.pointer (some ⟨w.heap.size,0,none⟩))).eval (ki kind 0))).defers=[]:=by simp only [qf_];exact hd0
 generalize ((a.put (some 2) (.pointer (some ⟨w.heap.size,0,none⟩))).put (some 4) ((a.put (some 2) (.pointer (some ⟨w.heap.size,0,none⟩))).eval (ki kind 0)))=a1 at hs1 hg11 hd1 ⊢
 have hoct1:OctAt (w.alloc (.cells #[] K.tBE (0,0))) S o r.src:=hoct.keep hk1 id
 generalize w.alloc (.cells #[] K.tBE (0,0))=w1 at hk1 hoct1 ⊢
 refine qh_ (qj_ (qd_ ?_))
 rw [qb_,hg11]
 refine j3_ (i:=k - 1) (k:=.i64) (sz:=1) (by rw [qb_,gpe (by omega)]) rfl (by omega) kt.sl (kt.u8.size _) ?_
 refine q5_ (v:=.int .u8 (b.toNat:Int)) (by rw [qb_,gpe (by simp only [qa_];omega)]) (kt.u8.agg _) (by rw [Nat.mul_one];exact hoct1 _ b hbb) (wpList_nil ?_)
 have hs2:(((a1.put (some 5) (.slice (some ⟨S,o,none⟩) r.src.length c)).put (some 6) (.pointer (some ⟨S,o + (k - 1) * 1,none⟩))).put (some 7) (.int .u8 (b.toNat:Int))).tmps.size=ntmps:=by simp only [qa_];exact hs1
 have hg2:(((a1.put (some 5) (.slice (some ⟨S,o,none⟩) r.src.length c)).put (some 6) (.pointer (some ⟨S,o + (k - 1) * 1,none⟩))).put (some 7) (.int .u8 (b.toNat:Int))).get 1=.slice (some ⟨S,o,none⟩) r.src.length c:=by rw [gpo (by omega),gpo (by omega),gpo (by omega)];exact hg11
 have hd2:(((a1.put (some 5) (.slice (some ⟨S,o,none⟩) r.src.length c)).put (some 6) (.pointer (some ⟨S,o + (k - 1) * 1,none⟩))).put (some 7) (.int .u8 (b.toNat:Int))).defers=[]:=by simp only [qf_];exact hd1
 generalize (((a1.put (some 5) (.slice (some ⟨S,o,none⟩) r.src.length c)).put (some 6) (.pointer (some ⟨S,o + (k - 1) * 1,none⟩))).put (some 7) (.int .u8 (b.toNat:Int)))=a2 at hs2 hg2 hd2 ⊢
 obtain ⟨fl,hl1,hl2,hl3⟩:=hloud
 refine qh_ (.drw (fun w'=>OctAt w' S o r.src) ?_)
 rw [hl1,hl2,hl3]
 refine ev_free (c:=c) kt hkind hK (fun _ h=>h) rfl hlen hk0 hb (by rw [hs2];exact hnt) hg2 fun a3 hs3 hd3 hg3=>?_
 have hkd:Keeps (fun _=>False) w1 w1.drew:=Keeps.drew _ _
 have hod:OctAt w1.drew S o r.src:=hoct1.keep hkd id
 refine ⟨hod,?_⟩
 have hr:(execOp a3.eval (mk (some 4) (.assign (tm (12 + 6 * (k - 1) - 1))))).run P w1.drew=.ok (.value (a3.eval (tm (12 + 6 * (k - 1) - 1)))) w1.drew:=rfl
 unfold Oper.wp
 rw [hr]
 refine ⟨hod,.ret ⟨?_,?_,hk1.trans hkd⟩⟩
 ·show (a3.put (some 4) _).defers=[]
  rw [qf_,hd3];exact hd2
 ·show Ending.returned (zl_ [4] (a3.put (some 4) (a3.eval (tm (12 + 6 * (k - 1) - 1)))))=_
  simp only [zl_]
  rw [gpe (by omega),qb_,hg3]
end
def gSkel (K:Kn) (z:Value) (k:Nat) (Rd F:GC):Code:=(gS [ji_ 2 z,kLenLt K k (kFail K z) jk_,Rd,kAdv K k,F,q3_ .ret] 4).1
def kBigOps (K:Kn) (f:Nat) (conv:Option (Nat × Nat)) (n:Nat):List Oper:=
 mk (some n) (.load K.tBE (.global K.gBE)) :: (kSrc K 0 (n + 1)++(cl (some (n + 5)) f [tm n,tm (n + 4)] ::
  (match conv with | some (A,B)=>[mk (some (n + 6)) (.convert A B (tm (n + 5))),mk (some 3) (.assign (tm (n + 6)))] | none=>[mk (some 3) (.assign (tm (n + 5)))])))
def kBig (K:Kn) (f:Nat) (conv:Option (Nat × Nat)):GC:=fun n=>(.region 1 (kBigOps K f conv n).toArray true,n + (match conv with | some _=>7 | none=>6))
section
variable {P:Program} {g:G} {K:Kn} {T S R:Nat} {r:RS} {x n:Nat} {KK:Act->World->Prop} {Q:Exit->Act->World->Prop} {a:Act} {w:World}
def FixPost (T S R k:Nat) (r:RS) (w:World) (z fv:Value) (e:Ending) (w':World):Prop:=
 (if r.src.length < k then e=.returned z/\RdS w' T S R .fail else e=.returned fv/\RdS w' T S R ⟨r.src.drop k,r.bad,r.nl⟩)/\Keeps (·=R) w w'
theorem k_skel (kt:KT P g K) {f ntmps kr k:Nat} {z rv fv:Value} {Rd F:GC} (hfn:FnIs P f ntmps [2] (gSkel K z k Rd F)) (hRn:(Rd 16).2=16 + kr) (hnt:16 + kr + 8<=ntmps) (hR:RdS w T S R r) (hRS:S ≠ R)
  (hRd:k<=r.src.length->∀ (v:Value) (a:Act) (K':Act->World->Prop) (Q':Exit->Act->World->Prop),RdC w T S R v r->a.get 0=pt R 0->a.tmps.size=ntmps->(∀ a' w',Pv 3 0 0 16 a a'->a'.get 3=rv->Keeps (fun _=>False) w w'->K' a' w')->NWP P (Rd 16).1 (Exit.then K' Q') a w)
  (hF:k<=r.src.length->∀ (a:Act) (w':World) (K':Act->World->Prop) (Q':Exit->Act->World->Prop),a.get 3=rv->a.tmps.size=ntmps->(∀ a',a'.defers=a.defers->a'.get 2=fv->K' a' w')->NWP P (F (16 + kr + 8)).1 (Exit.then K' Q') a w') :
  Calls P f #[pt R 0] w (FixPost T S R k r w z fv):=by
 refine hfn.calls kt.mixed (by simp) ?_
 have hsz:=jo_ #[pt R 0] ntmps (by show 1<=ntmps;omega)
 have hg0:({ tmps:=#[pt R 0]++Array.replicate (ntmps - (#[pt R 0]:Array Value).size) undef,defers:=[] }:Act).get 0=pt R 0:=by rw [ja_ _ _ _ (by simp)];rfl
 have hd0:({ tmps:=#[pt R 0]++Array.replicate (ntmps - (#[pt R 0]:Array Value).size) undef,defers:=[] }:Act).defers=[]:=rfl
 have hsz':({ tmps:=#[pt R 0]++Array.replicate (ntmps - (#[pt R 0]:Array Value).size) undef,defers:=[] }:Act).tmps.size=ntmps:=hsz
 generalize ({ tmps:=#[pt R 0]++Array.replicate (ntmps - (#[pt R 0]:Array Value).size) undef,defers:=[] }:Act)=a at hg0 hd0 hsz' ⊢
 obtain ⟨v,hv⟩:=hR
 refine q2_ (qc_ (xa_ (x:=2) (m:=0) (k0:=0) (.inl rfl) (by omega) fun a1 hp1 hg1=>?_))
 have hs1:=hp1.size
 have hg01:a1.get 0=pt R 0:=(hp1.get 0 (by omega) (.inr ⟨by omega,by omega⟩)).trans hg0
 rw [show (ji_ 2 z 4).2=4 from rfl]
 refine qc_ ?_
 rw [qr_]
 refine k_lenLt kt hg01 hv (by omega) fun a2 hp2=>?_
 have hs2:=hp2.size
 have hg02:a2.get 0=pt R 0:=(hp2.get 0 (by omega) (.inr ⟨by omega,by omega⟩)).trans hg01
 by_cases hlt:r.src.length < k
 ·rw [if_pos hlt]
  refine k_fail kt hg02 hv hRS (by omega) (by omega) fun a3 w3 hd3 hg3 hrd3 hk3=>⟨by rw [hd3,hp2.defers,hp1.defers];exact hd0,?_⟩
  refine ⟨?_,hk3⟩
  rw [if_pos hlt]
  exact ⟨by simp only [zl_];rw [hg3],hrd3⟩
 ·rw [if_neg hlt]
  have hk:k<=r.src.length:=by omega
  refine .skip ?_
  show LW P [Rd,kAdv K k,F,q3_ .ret] 16 _ a2 w
  refine qc_ (hRd hk v a2 _ _ hv hg02 (by omega) fun a3 w3 hp3 hg3 hk3=>?_)
  have hs3:=hp3.size
  rw [hRn]
  have hv3:RdC w3 T S R v r:=by
   have hRl:R < w.heap.size:=(Array.getElem?_eq_some_iff.1 hv.1).1
   exact ⟨by rw [hk3.block R hRl id];exact hv.1,hv.2.keep hk3 id⟩
  have hg03:a3.get 0=pt R 0:=(hp3.get 0 (by omega) (.inr ⟨by omega,by omega⟩)).trans hg02
  refine qc_ (k_adv kt hg03 hv3 hk hRS (by omega) (by omega) fun a4 hp4 hrd4=>?_)
  have hs4:=hp4.size
  rw [show (kAdv K k (16 + kr)).2=16 + kr + 8 from rfl]
  refine qc_ (hF hk a4 _ _ _ ((hp4.get 3 (by omega) (.inr ⟨by omega,by omega⟩)).trans hg3) (by omega) fun a5 hd5 hg5=>qc_ (.ret ?_))
  refine ⟨by rw [hd5,hp4.defers,hp3.defers,hp2.defers,hp1.defers];exact hd0,?_,(hk3.mono fun _ _ h=>h.elim).trans (Keeps.setRow (fun k=>k=R) _ _ _ rfl)⟩
  rw [if_neg hlt]
  exact ⟨by simp only [zl_];rw [hg5],hrd4⟩
theorem src_take {v:Value} (h:jz_ w S v r) (hk:0 < r.src.length):∃ o c,v=.slice (some ⟨S,o,none⟩) r.src.length c/\OctAt w S o r.src:=by
 rcases h with ⟨_,h2,_⟩ | ⟨o,c,h1,_,_,_,_,h6⟩
 ·rw [h2] at hk;simp at hk
 ·exact ⟨o,c,h1,h6⟩
theorem ev_src (kt:KT P g K) {I:World->Prop} {s:Nat} {v:Value} {l:List Oper} {K':Act->Prop} (hs:a.get s=pt R 0) (hI:∀ w,I w->w.cell? ⟨R,0,none⟩=some v) (hn:n + 4<=a.tmps.size) (h:∀ a',Pv n 0 0 n a a'->a'.get (n + 3)=v->evF P I l a' K'):evF P I (kSrc K s n++l) a K':=by
 show evF P I (mk (some n) (.move (tm s)) :: mk (some (n + 1)) (.nilCheck (tm n)) :: mk (some (n + 2)) (.fieldAddr K.tRS (tm (n + 1)) 0) :: mk (some (n + 3)) (.load K.tSl (tm (n + 2))) :: l) a K'
 refine ev_move ?_
 rw [qb_,hs]
 refine ev_nilCheck (by rw [qb_,gpe (by omega)];rfl) ?_
 refine ev_fld (by rw [qb_,gpe (by simp only [qa_];omega)]) kt.f0 ?_
 refine ev_load1 (by rw [qb_,gpe (by simp only [qa_];omega)]) kt.f0.var.agg hI ?_
 exact h _ (((((Pv.refl _ _ _ _ _).put _ (by omega)).put _ (by omega)).put _ (by omega)).put _ (by omega)) (gpe (by simp only [qa_];omega))
theorem k_big (kt:KT P g K) {f k:Nat} {kind:IntKind} {conv:Option (Nat × Nat)} {rv:Value} {v:Value} (hbe:jp_ P K.tBE true 0) (hfE:Ent P f) (hf:∀ w':World,jz_ w' S v r->Calls P f #[.agg #[],v] w' fun e w''=>e=.returned (.int kind ((unbe (r.src.take k):Nat):Int))/\Keeps (fun _=>False) w' w'')
  (hconv:match conv with
   | some (A,B)=>∃ k',P.underlying A=some (.int kind)/\P.underlying B=some (.int k')/\rv=.int k' (k'.wrap ((unbe (r.src.take k):Nat):Int))
   | none=>rv=.int kind ((unbe (r.src.take k):Nat):Int))
  (hv:RdC w T S R v r) (h0:a.get 0=pt R 0) (hn:16 + 7<=a.tmps.size)
  (h:∀ a' w',Pv 3 0 0 16 a a'->a'.get 3=rv->Keeps (fun _=>False) w w'->KK a' w'):NWP P (kBig K f conv 16).1 (Exit.then KK Q) a w:=by
 have hfree:∃ fl,xd_ (kBigOps K f conv 16)=fl/\xc_ (kBigOps K f conv 16) fl=mk (some 16) (.load K.tBE (.global K.gBE)) :: (kSrc K 0 17++[])/\j9_ (kBigOps K f conv 16) fl=cl (some 21) f [tm 16,tm 20] ::
   (match conv with | some (A,B)=>[mk (some 22) (.convert A B (tm 21)),mk (some 3) (.assign (tm 22))] | none=>[mk (some 3) (.assign (tm 21))]):=by
  cases conv with
  | none=>exact ⟨[false,false,false,false,false,true,true],rfl,rfl,rfl⟩
  | some q=>exact ⟨[false,false,false,false,false,true,true,true],rfl,rfl,rfl⟩
 obtain ⟨fl,h1,h2,h3⟩:=hfree
 have hcell:w.cell? ⟨R,0,none⟩=some v:=by simp [World.cell?,hv.1]
 refine .drw (fun w'=>w'.cell? ⟨R,0,none⟩=some v) ?_
 rw [h1,h2,h3]
 refine ⟨.agg #[],fun w' _=>?_,?_⟩
 ·have he:a.eval (.global K.gBE)=.pointer (some ⟨K.gBE,0,none⟩):=rfl
  have hl:=run_loadCells_list (P:=P) w' ⟨K.gBE,0,none⟩ [] (fun j v hj=>by simp at hj)
  simp only [List.length_nil] at hl
  simp [execOp,mk,he,Instr.loadAt,Instr.sureAddr,loadVar,hbe.agg,hbe.size,hl]
 ·show evF P _ (kSrc K 0 17++[]) (a.put (some 16) (.agg #[])) _
  have hp0:Pv 3 0 0 16 a (a.put (some 16) (.agg #[])):=(Pv.refl _ _ _ _ _).put _ (by omega)
  refine ev_src kt (v:=v) (by rw [gpo (by omega)];exact h0) (fun _ h=>h) (by simp only [qa_];omega) fun a1 hp1 hg1=>?_
  have hs1:=hp1.size
  rw [qa_] at hs1
  have hg16:a1.get 16=.agg #[]:=by rw [hp1.get 16 (by omega) (.inr ⟨by omega,by omega⟩),gpe (by omega)]
  have hp01:Pv 3 0 0 16 a a1:=hp0.trans ⟨hp1.size,hp1.defers,fun s hs hh=>hp1.get s (by omega) (.inr ⟨by omega,by omega⟩)⟩
  have hkd:Keeps (fun _=>False) w w.drew:=Keeps.drew _ _
  refine ⟨hkd.cell id hcell,?_⟩
  refine wp_callK (vs:=#[.agg #[],v]) rfl hfE (by simp [qb_,hg16,hg1]) (hf w.drew (hv.2.keep hkd id)) fun e w2 hR=>?_
  obtain ⟨he,hk2⟩:=hR
  have hk02:Keeps (fun _=>False) w w2:=hkd.trans hk2
  refine ⟨_,he,?_⟩
  cases conv with
  | none=>
   subst hconv
   refine ⟨hk02.cell id hcell,?_⟩
   have hr:(execOp (a1.put (some 21) (.int kind ((unbe (r.src.take k):Nat):Int))).eval (mk (some 3) (.assign (tm 21)))).run P w2=.ok (.value ((a1.put (some 21) (.int kind ((unbe (r.src.take k):Nat):Int))).eval (tm 21))) w2:=rfl
   unfold Oper.wp
   rw [hr]
   refine ⟨hk02.cell id hcell,h _ w2 ((hp01.put _ (by omega)).put _ (by omega)) ?_ hk02⟩
   show ((a1.put (some 21) _).put (some 3) _).get 3=_
   rw [gpe (by simp only [qa_];omega),qb_,gpe (by omega)]
  | some q=>
   obtain ⟨A,B⟩:=q
   obtain ⟨k',hA,hB,rfl⟩:=hconv
   refine ⟨hk02.cell id hcell,?_⟩
   have e21:(a1.put (some 21) (.int kind ((unbe (r.src.take k):Nat):Int))).eval (tm 21)=.int kind ((unbe (r.src.take k):Nat):Int):=by rw [qb_,gpe (by omega)]
   have hr:(execOp (a1.put (some 21) (.int kind ((unbe (r.src.take k):Nat):Int))).eval (mk (some 22) (.convert A B (tm 21)))).run P w2=.ok (.value (.int k' (k'.wrap ((unbe (r.src.take k):Nat):Int)))) w2:=by
    simp [execOp,mk,e21,convert,run_underlying hA,run_underlying hB,Conv.intToInt]
   unfold Oper.wp
   rw [hr]
   refine ⟨hk02.cell id hcell,?_⟩
   have hr2:(execOp ((a1.put (some 21) (.int kind ((unbe (r.src.take k):Nat):Int))).put (some 22) (.int k' (k'.wrap ((unbe (r.src.take k):Nat):Int)))).eval (mk (some 3) (.assign (tm 22)))).run P w2=.ok (.value (((a1.put (some 21) (.int kind ((unbe (r.src.take k):Nat):Int))).put (some 22) (.int k' (k'.wrap ((unbe (r.src.take k):Nat):Int)))).eval (tm 22))) w2:=rfl
   unfold Oper.wp
   show Oper.upon P _ _ _ _ _
   rw [show (mk (some 22) (Op.convert A B (tm 21))).dst=some 22 from rfl,hr2]
   refine ⟨hk02.cell id hcell,h _ w2 (((hp01.put _ (by omega)).put _ (by omega)).put _ (by omega)) ?_ hk02⟩
   show (((a1.put (some 21) _).put (some 22) _).put (some 3) _).get 3=_
   rw [gpe (by simp only [qa_];omega),qb_,gpe (by simp only [qa_];omega)]
end
def RdOk (P:Program) (T:Nat) (p:PF) (f:Nat):Prop:=
 Ent P f/\∀ (w:World) (S R:Nat) (r:RS),RdS w T S R r->S ≠ R->Calls P f #[pt R 0] w fun e w'=>
  ∃ v,e=.returned v/\RdS w' T S R (p.run r).2/\Keeps (·=R) w w'/\∀ X:Nat->Prop,(∀ k,X k->k < w.heap.size)->¬ X S->LRp w' X (pfTy p) v.cells.toList (p.run r).1
theorem wrap_sgn {k:IntKind} (hk:k=.i8 \/ k=.i16 \/ k=.i32 \/ k=.i64) {m:Nat} (h:m < 2 ^ k.bits):k.wrap (m:Int)=sgn k.bits m:=by
 rcases hk with rfl | rfl | rfl | rfl
 ·simp only [IntKind.bits] at h
  by_cases h2:m < 128
  ·have e:¬ ((m:Int) % 256 ≥ 128):=by omega
   simp [IntKind.wrap,IntKind.bits,IntKind.signed,sgn,h2]
   omega
  ·simp [IntKind.wrap,IntKind.bits,IntKind.signed,sgn,h2]
   omega
 ·simp only [IntKind.bits] at h
  by_cases h2:m < 32768
  ·have e:¬ ((m:Int) % 65536 ≥ 32768):=by omega
   simp [IntKind.wrap,IntKind.bits,IntKind.signed,sgn,h2]
   omega
  ·simp [IntKind.wrap,IntKind.bits,IntKind.signed,sgn,h2]
   omega
 ·simp only [IntKind.bits] at h
  by_cases h2:m < 2147483648
  ·have e:¬ ((m:Int) % 4294967296 ≥ 2147483648):=by omega
   simp [IntKind.wrap,IntKind.bits,IntKind.signed,sgn,h2]
   omega
  ·simp [IntKind.wrap,IntKind.bits,IntKind.signed,sgn,h2]
   omega
 ·simp only [IntKind.bits] at h
  by_cases h2:m < 9223372036854775808
  ·have e:¬ ((m:Int) % 18446744073709551616 ≥ 9223372036854775808):=by omega
   simp [IntKind.wrap,IntKind.bits,IntKind.signed,sgn,h2]
   omega
  ·simp [IntKind.wrap,IntKind.bits,IntKind.signed,sgn,h2]
   omega
section
variable {P:Program} {g:G} {K:Kn} {T:Nat}
def cI16 (K:Kn):Code:=gSkel K (.int .i16 0) 2 (kBig K K.fU16 (some (K.tU16,K.tI16))) (jf_ 3 2)
def cU16 (K:Kn):Code:=gSkel K (.int .u16 0) 2 (kBig K K.fU16 none) (jf_ 3 2)
def cI32 (K:Kn):Code:=gSkel K (.int .i32 0) 4 (kBig K K.fU32 (some (K.tU32,K.tI32))) (jf_ 3 2)
def cR64 (K:Kn):Code:=gSkel K (.int .u64 0) 8 (kBig K K.fU64 none) (jf_ 3 2)
def cI64 (K:Kn):Code:=(gS [ji_ 2 (.int .i64 0),qu_ 3 fun n=>[mk (some n) (.move (tm 0)),cl (some (n + 1)) K.fR64 [tm n],mk (some (n + 2)) (.convert K.tU64 K.tI64 (tm (n + 1))),mk (some 2) (.assign (tm (n + 2)))],q3_ .ret] 3).1
theorem k_move {rv:Value} {a:Act} {w:World} {n:Nat} {KK:Act->World->Prop} {Q:Exit->Act->World->Prop} (h3:a.get 3=rv) (hn:n + 1<=a.tmps.size) (h2n:2 < n) (h:∀ a',a'.defers=a.defers->a'.get 2=rv->KK a' w):NWP P (jf_ 3 2 n).1 (Exit.then KK Q) a w:=
 s_move (x:=2) (m:=0) (k0:=0) (.inl rfl) (Nat.le_refl _) (by omega) (by omega) (by omega) fun a' hp hg=>h a' hp.defers (hg.trans h3)
theorem rI_short {k:Nat} {r:RS} (h:r.src.length < k):rI k r=(sgn (8 * k) 0,.fail):=by simp [rI,rU,h]
theorem rI_long {k:Nat} {r:RS} (h:k<=r.src.length):rI k r=(sgn (8 * k) (unbe (r.src.take k)),⟨r.src.drop k,r.bad,r.nl⟩):=by
 have:¬ r.src.length < k:=by omega
 simp [rI,rU,this]
theorem unbe_take_lt {k:Nat} {l:Bs} (h:k<=l.length):unbe (l.take k) < 256 ^ k:=by
 have:=unbe_lt (l.take k)
 rwa [List.length_take,Nat.min_eq_left h] at this
theorem rdOk_int {p:Prim} {k:Nat} {kind:IntKind} (hp:(p=.i8/\k=1) \/ (p=.i16/\k=2) \/ (p=.i32/\k=4) \/ (p=.i64/\k=8)) (hkind:p.kind=kind) {w w':World} {S R:Nat} {r:RS} {e:Ending}
  (h:FixPost T S R k r w (.int kind 0) (.int kind (kind.wrap ((unbe (r.src.take k):Nat):Int))) e w') :
  e=.returned (.int kind (rI k r).1)/\RdS w' T S R (rI k r).2/\Keeps (·=R) w w'/\∀ X:Nat->Prop,LRp w' X (.prim p) (Value.int kind (rI k r).1).cells.toList (.n (rI k r).1):=by
 obtain ⟨h1,h2⟩:=h
 have hb:kind.bits=8 * k/\(kind=.i8 \/ kind=.i16 \/ kind=.i32 \/ kind=.i64):=by
  rcases hp with ⟨rfl,rfl⟩ | ⟨rfl,rfl⟩ | ⟨rfl,rfl⟩ | ⟨rfl,rfl⟩ <;> subst hkind <;> simp [Prim.kind,IntKind.bits]
 have hfit:∀ m:Nat,m < 256 ^ k->p.fits (sgn (8 * k) m):=by
  intro m hm
  rcases hp with ⟨rfl,rfl⟩ | ⟨rfl,rfl⟩ | ⟨rfl,rfl⟩ | ⟨rfl,rfl⟩ <;> simp [Prim.fits,sgn] at hm ⊢ <;> split <;> omega
 have hkinds:∀ x:Int,p.fits x->∀ X:Nat->Prop,LRp w' X (.prim p) (Value.int kind x).cells.toList (.n x):=by
  intro x hx X
  rcases hp with ⟨rfl,rfl⟩ | ⟨rfl,rfl⟩ | ⟨rfl,rfl⟩ | ⟨rfl,rfl⟩ <;> subst hkind <;> exact ⟨x,rfl,rfl,hx⟩
 by_cases hlt:r.src.length < k
 ·rw [if_pos hlt] at h1
  rw [rI_short hlt]
  have h0:sgn (8 * k) 0=0:=by
   rcases hp with ⟨_,rfl⟩ | ⟨_,rfl⟩ | ⟨_,rfl⟩ | ⟨_,rfl⟩ <;> simp [sgn]
  refine ⟨by rw [h0];exact h1.1,h1.2,h2,fun X=>hkinds _ (hfit 0 (by
   rcases hp with ⟨_,rfl⟩ | ⟨_,rfl⟩ | ⟨_,rfl⟩ | ⟨_,rfl⟩ <;> simp)) X⟩
 ·rw [if_neg hlt] at h1
  have hk:k<=r.src.length:=by omega
  have hm:=unbe_take_lt hk
  rw [rI_long hk]
  have hw:kind.wrap ((unbe (r.src.take k):Nat):Int)=sgn (8 * k) (unbe (r.src.take k)):=by
   rw [wrap_sgn hb.2 (by rw [hb.1,Nat.pow_mul];exact hm),hb.1]
  rw [hw] at h1
  exact ⟨h1.1,h1.2,h2,fun X=>hkinds _ (hfit _ hm) X⟩
theorem uncons1 {l:Bs} (h:1<=l.length):∃ b t,l=b :: t:=by
 cases l with
 | nil=>simp at h
 | cons b t=>exact ⟨b,t,rfl⟩
end
structure KSub (P:Program) (g:G) (K:Kn) (T:Nat):Prop where
 e16:za_ (g.rd .i16)=true->Ent P (g.rd .i16)
 c16:za_ (g.rd .i16)=true->∀ (w:World) (S R:Nat) (r:RS),RdS w T S R r->S ≠ R->Calls P (g.rd .i16) #[pt R 0] w fun e w'=>e=.returned (.int .i16 (rI 2 r).1)/\RdS w' T S R (rI 2 r).2/\Keeps (·=R) w w'
 e32:za_ (g.rd .i32)=true->Ent P (g.rd .i32)
 c32:za_ (g.rd .i32)=true->∀ (w:World) (S R:Nat) (r:RS),RdS w T S R r->S ≠ R->Calls P (g.rd .i32) #[pt R 0] w fun e w'=>e=.returned (.int .i32 (rI 4 r).1)/\RdS w' T S R (rI 4 r).2/\Keeps (·=R) w w'
 eU:za_ g.uv=true->Ent P g.uv
 cU:za_ g.uv=true->∀ (w:World) (S R:Nat) (r:RS),RdS w T S R r->S ≠ R->Calls P g.uv #[pt R 0] w fun e w'=>e=.returned (.int .u32 (rUv r).1)/\RdS w' T S R (rUv r).2/\Keeps (·=R) w w'
 eS:za_ g.span=true->Ent P g.span
 cS:za_ g.span=true->∀ (w:World) (S R:Nat) (r:RS) (k:Int),RdS w T S R r->S ≠ R->Calls P g.span #[pt R 0,.int .i64 k] w fun e w'=>
  ∃ v,e=.returned v/\RdS w' T S R (qo_ k r).2/\Keeps (·=R) w w'/\jz_ w' S v ⟨(qo_ k r).1.octets,false,(qo_ k r).1.isNul⟩
 dStr:P.underlying K.tStr=some .string
 vStr:jp_ P K.tStr false 1
 zStr:∀ w,(zeroValue K.tStr).run P w=.ok (.string ⟨#[]⟩) w
def kNum (f:Nat):GC:=qu_ 2 fun n=>[mk (some n) (.move (tm 0)),cl (some (n + 1)) f [tm n],mk (some 3) (.assign (tm (n + 1)))]
def kNumU (g:G) (A B:Nat) (k:IntKind):GC:=qu_ 4 fun n=>[mk (some n) (.move (tm 0)),cl (some (n + 1)) g.uv [tm n],mk (some (n + 2)) (.convert A B (tm (n + 1))),mk (some (n + 3)) (.binOp .sub B (tm (n + 2)) (ki k 1) 0),mk (some 3) (.assign (tm (n + 3)))]
def oSpanC (g:G) (A B n:Nat):List Oper:=[mk (some n) (.move (tm 0)),mk (some (n + 1)) (.move (tm 3)),mk (some (n + 2)) (.convert A B (tm (n + 1))),cl (some (n + 3)) g.span [tm n,tm (n + 2)]]
def oSpanD (g:G) (n:Nat):List Oper:=[mk (some n) (.move (tm 0)),mk (some (n + 1)) (.move (tm 3)),cl (some (n + 2)) g.span [tm n,tm (n + 1)]]
def cStr (g:G) (K:Kn):Code:=(gS [ji_ 2 (.string ⟨#[]⟩),kNum (g.rd .i16),qu_ 5 fun n=>oSpanC g K.tI16 K.tInt n++[mk (some (n + 4)) (.convert K.tSl K.tStr (tm (n + 3))),mk (some 2) (.assign (tm (n + 4)))],q3_ .ret] 4).1
def cCStr (g:G) (K:Kn):Code:=(gS [ji_ 2 (.string ⟨#[]⟩),kNumU g K.tU32 K.tInt .i64,qu_ 4 fun n=>oSpanD g n++[mk (some (n + 3)) (.convert K.tSl K.tStr (tm (n + 2))),mk (some 2) (.assign (tm (n + 3)))],q3_ .ret] 4).1
def kNeg (T:Nat) (k:IntKind) (z:Value):GC:=gIf 1 2 (fun n=>[mk (some n) (.move (tm 3)),mk (some (n + 1)) (.binOp .lss T (tm n) (ki k 0) 0)]) (gS [ji_ 2 z,q3_ .ret]) jk_
def kEq1 (K:Kn) (T:Nat) (k:IntKind):GC:=gIf 1 2 (fun n=>[mk (some n) (.move (tm 3)),mk (some (n + 1)) (.binOp .eql T (tm n) (ki k (-1)) 0)]) (gS [qu_ 1 fun n=>[mk (some n) (.buildSlice K.tSl 0 #[]),mk (some 2) (.assign (tm n))],q3_ .ret]) jk_
def cNStr (g:G) (K:Kn):Code:=(gS [ji_ 2 (.pointer none),kNum (g.rd .i16),kNeg K.tI16 .i16 (.pointer none),qu_ 5 fun n=>oSpanC g K.tI16 K.tInt n++[mk (some (n + 4)) (.convert K.tSl K.tStr (tm (n + 3))),mk (some 4) (.alloc K.tStr),mk none (.store K.tStr (tm 4) (tm (n + 4)))],
 qu_ 0 fun _=>[mk (some 2) (.assign (tm 4))],q3_ .ret] 5).1
def cCNStr (g:G) (K:Kn):Code:=(gS [ji_ 2 (.pointer none),kNumU g K.tU32 K.tInt .i64,kNeg K.tInt .i64 (.pointer none),qu_ 4 fun n=>oSpanD g n++[mk (some (n + 3)) (.convert K.tSl K.tStr (tm (n + 2))),mk (some 4) (.alloc K.tStr),mk none (.store K.tStr (tm 4) (tm (n + 3)))],
 qu_ 0 fun _=>[mk (some 2) (.assign (tm 4))],q3_ .ret] 5).1
def cBytes (g:G) (K:Kn):Code:=(gS [ji_ 2 (.slice none 0 0),kNum (g.rd .i32),kEq1 K K.tI32 .i32,qu_ 4 fun n=>oSpanC g K.tI32 K.tInt n++[mk (some 2) (.assign (tm (n + 3)))],q3_ .ret] 4).1
def cCBytes (g:G) (K:Kn):Code:=(gS [ji_ 2 (.slice none 0 0),kNumU g K.tU32 K.tInt .i64,kEq1 K K.tInt .i64,qu_ 3 fun n=>oSpanD g n++[mk (some 2) (.assign (tm (n + 2)))],q3_ .ret] 4).1
def cNBytes (g:G) (K:Kn):Code:=(gS [ji_ 2 (.slice none 0 0),kNum (g.rd .i32),kNeg K.tI32 .i32 (.slice none 0 0),qu_ 4 fun n=>oSpanC g K.tI32 K.tInt n++[mk (some 4) (.assign (tm (n + 3)))],jf_ 4 2,q3_ .ret] 5).1
section
variable {P:Program} {g:G} {K:Kn} {T S R:Nat} {r:RS} {n:Nat} {KK:Act->World->Prop} {Q:Exit->Act->World->Prop} {a:Act} {w:World}
theorem k_num {f:Nat} {v:Value} {r':RS} (hE:Ent P f) (hC:Calls P f #[pt R 0] w fun e w'=>e=.returned v/\RdS w' T S R r'/\Keeps (·=R) w w') (h0:a.get 0=pt R 0) (hn:n + 2<=a.tmps.size) (h3n:3 < n)
  (h:∀ a' w',Pv 3 0 0 n a a'->a'.get 3=v->RdS w' T S R r'->Keeps (·=R) w w'->KK a' w'):NWP P (kNum f n).1 (Exit.then KK Q) a w:=by
 refine qj_ (qd_ ?_)
 rw [qb_,h0]
 refine qv_ (vs:=#[pt R 0]) hE (by simp [qb_,gpe (show n < a.tmps.size by omega)]) hC fun e w' hR=>⟨_,hR.1,qg_ (wpList_nil ?_)⟩
 rw [qb_,gpe (by simp only [qa_];omega)]
 exact h _ w' (((((Pv.refl _ _ _ _ _).put _ (by omega)).put _ (by omega)).put _ (by omega))) (gpe (by simp only [qa_];omega)) hR.2.1 hR.2.2
theorem wl_spanC (ks:KSub P g K T) (hSk:za_ g.span=true) {ops:Array Oper} {l:List Oper} {A B:Nat} {k:IntKind} {x:Int} (_hk:k=.i16 \/ k=.i32) (hA:P.underlying A=some (.int k)) (hB:P.underlying B=some (.int .i64)) (hx:-2147483648<=x/\x < 2147483648) (h0:a.get 0=pt R 0) (h3:a.get 3=.int k x) (hR:RdS w T S R r) (hRS:S ≠ R)
  (hn:n + 4<=a.tmps.size) (h3n:3 < n)
  (h:∀ a' w' v,Pv n 0 0 n a a'->a'.get (n + 3)=v->RdS w' T S R (qo_ x r).2->Keeps (·=R) w w'->jz_ w' S v ⟨(qo_ x r).1.octets,false,(qo_ x r).1.isNul⟩->wpList P ops Q l a' w'):wpList P ops Q (oSpanC g A B n++l) a w:=by
 show wpList P ops Q (mk (some n) (.move (tm 0)) :: mk (some (n + 1)) (.move (tm 3)) :: mk (some (n + 2)) (.convert A B (tm (n + 1))) :: cl (some (n + 3)) g.span [tm n,tm (n + 2)] :: l) a w
 refine qd_ ?_
 rw [qb_,h0]
 refine qd_ ?_
 rw [qb_,gpo (by omega),h3]
 have hw:IntKind.i64.wrap x=x:=by simp [IntKind.wrap,IntKind.bits,IntKind.signed];omega
 refine qw_ (k:=k) (k':=.i64) (by rw [qb_,gpe (by simp only [qa_];omega)]) hA hB ?_
 rw [hw]
 refine qv_ (vs:=#[pt R 0,.int .i64 x]) (ks.eS hSk) ?_ (ks.cS hSk w S R r x hR hRS) fun e w' hR2=>?_
 ·simp only [List.map_cons,List.map_nil,qb_]
  rw [gpe (by simp only [qa_];omega),gpo (show n ≠ n + 2 by omega),gpo (show n ≠ n + 1 by omega),gpe (by omega)]
 ·obtain ⟨v,he,h1,h2,h4⟩:=hR2
  exact ⟨v,he,h _ w' v (((((Pv.refl _ _ _ _ _).put _ (by omega)).put _ (by omega)).put _ (by omega)).put _ (by omega)) (gpe (by simp only [qa_];omega)) h1 h2 h4⟩
theorem wl_spanD (ks:KSub P g K T) (hSk:za_ g.span=true) {ops:Array Oper} {l:List Oper} {x:Int} (h0:a.get 0=pt R 0) (h3:a.get 3=.int .i64 x) (hR:RdS w T S R r) (hRS:S ≠ R) (hn:n + 3<=a.tmps.size) (h3n:3 < n)
  (h:∀ a' w' v,Pv n 0 0 n a a'->a'.get (n + 2)=v->RdS w' T S R (qo_ x r).2->Keeps (·=R) w w'->jz_ w' S v ⟨(qo_ x r).1.octets,false,(qo_ x r).1.isNul⟩->wpList P ops Q l a' w'):wpList P ops Q (oSpanD g n++l) a w:=by
 show wpList P ops Q (mk (some n) (.move (tm 0)) :: mk (some (n + 1)) (.move (tm 3)) :: cl (some (n + 2)) g.span [tm n,tm (n + 1)] :: l) a w
 refine qd_ ?_
 rw [qb_,h0]
 refine qd_ ?_
 rw [qb_,gpo (by omega),h3]
 refine qv_ (vs:=#[pt R 0,.int .i64 x]) (ks.eS hSk) ?_ (ks.cS hSk w S R r x hR hRS) fun e w' hR2=>?_
 ·simp only [List.map_cons,List.map_nil,qb_]
  rw [gpe (by simp only [qa_];omega),gpo (show n ≠ n + 1 by omega),gpe (by omega)]
 ·obtain ⟨v,he,h1,h2,h4⟩:=hR2
  exact ⟨v,he,h _ w' v ((((Pv.refl _ _ _ _ _).put _ (by omega)).put _ (by omega)).put _ (by omega)) (gpe (by simp only [qa_];omega)) h1 h2 h4⟩
theorem wl_bytesStr (kt:KT P g K) (ks:KSub P g K T) {ops:Array Oper} {l:List Oper} {d:Option Nat} {y:Operand} {v:Value} {r':RS} (hy:a.eval y=v) (hv:jz_ w S v r') (h:wpList P ops Q l (a.put d (.string ⟨r'.src.toArray⟩)) w):wpList P ops Q (mk d (.convert K.tSl K.tStr y) :: l) a w:=by
 refine qn_ ?_ h
 have hr:(convert K.tSl K.tStr v).run P w=.ok (.string ⟨r'.src.toArray⟩) w:=by
  rcases hv with ⟨rfl,h2,_⟩ | ⟨o,c,rfl,_,_,_,_,h6⟩
  ·rw [run_convert_bytes_string w K.tSl K.tStr K.tU8 none 0 0 kt.sl kt.dU8 ks.dStr,h2]
   simp [Conv.bytesToString]
   rfl
  ·exact run_convert_bytes_back w K.tSl K.tStr K.tU8 ⟨S,o,none⟩ c r'.src kt.sl kt.dU8 ks.dStr fun j hj=>by
    have:=h6 j r'.src[j] (by simp [hj])
    rw [Addr.add_lit]
    exact this
 simp only [execOp,mk,hy,Sem.run_bind,hr,Result.andThen_ok,Sem.run_pure]
theorem bytes_of_src {X:Nat->Prop} {nul:Option Nat} {v:Value} {x:Int} (hS:¬ X S) (h:jz_ w S v ⟨(qo_ x r).1.octets,false,(qo_ x r).1.isNul⟩):LRp w X (.bytes nul) v.cells.toList (qo_ x r).1:=by
 rcases h with ⟨rfl,h2,h3⟩ | ⟨o,c,rfl,h2,h3,h4,h5,h6⟩
 ·refine .inl ⟨rfl,?_⟩
  simp only at h3
  cases hh:(qo_ x r).1 <;> rw [hh] at h3 <;> first | rfl | cases h3
 ·refine .inr ⟨(qo_ x r).1.octets,S,o,c,rfl,hS,h5,h3,h4,h6,?_⟩
  simp only at h2
  have hsp:(qo_ x r).1=.nul \/ ∃ l,(qo_ x r).1=.s l:=by
   unfold qo_
   split
   ·exact .inl rfl
   ·split
    ·exact .inl rfl
    ·exact .inr ⟨_,rfl⟩
  rcases hsp with hh | ⟨l,hh⟩
  ·rw [hh] at h2;cases h2
  ·rw [hh];rfl
theorem span_len (x:Int) (hs:RdS w T S R r):(qo_ x r).1.octets.length<=maxLen:=by
 obtain ⟨v,_,hv⟩:=hs
 obtain ⟨base,c,_,_,h1,h2,_⟩:=hv.len
 unfold qo_
 split
 ·simp [V.octets]
 ·split
  ·simp [V.octets]
  ·simp [V.octets];omega
end
def FnIsC (P:Program) (f ntmps s t:Nat) (d:Code):Prop:=
 ∃ fn c, P.funcs[f]? = some fn /\ fn.body = some c /\ nCode c = d /\ fn.ntmps = ntmps /\ fn.results = #[ResultVar.cell s t] /\ (fn.name == "runtime.NumGoroutine") = false
theorem FnIsC.ent {P:Program} {f n s t:Nat} {d:Code} (h:FnIsC P f n s t d):Ent P f:=by
 obtain ⟨fn,c,hf,hb,_,_,_,hg⟩:=h
 have hg' : ¬ fn.name = "runtime.NumGoroutine" := by simpa using hg
 intro args w
 simp [callFunc,hf,hg',hb]
theorem FnIsC.calls {P:Program} (hm:P.follows .mixedOrders=true) {f n s t:Nat} {d:Code} (h:FnIsC P f n s t d) {args:Array Value} {w:World} {R:Ending->World->Prop}
  (hw:NWP P d (Rt (fun _ _=>False) (fun a w=>a.defers=[]/\∃ p v,a.get s=.pointer (some p)/\(loadVar t p).run P w=.ok v w/\R (.returned v) w)) { tmps:=args++Array.replicate (n - args.size) undef,defers:=[] } w):Calls P f args w R:=by
 obtain ⟨fn,c,hf,hb,rfl,rfl,hr,_⟩:=h
 refine calls_of_nwp hm hf hb rfl (.mono hw fun e a w hq=>?_)
 cases e <;> first | exact hq.elim | skip
 obtain ⟨hd,p,v,hp,hl,hR⟩:=hq
 refine ⟨hd,v,?_,hR⟩
 have hg:a.tmps[s]?.getD undef=.pointer (some p):=by
  have h2:a.tmps.getD s undef=.pointer (some p):=hp
  rwa [Array.getD_eq_getD_getElem?] at h2
 unfold results
 rw [hr]
 simp [hg,asAddr,hl]
def uuDraw (g:G) (K:Kn):List Oper:=[mk (some 4) (.slice K.tUuid (tm 3) none none none),mk (some 5) (.move (tm 0)),cl (some 6) g.span [tm 5,ki .i64 16],bi (some 7) .copy [tm 4,tm 6] [K.tSl,K.tSl] K.tInt]
def cUuid (g:G) (K:Kn):Code:=sq [rg [mk (some 2) (.alloc K.tUuid)],rg [mk (some 3) (.alloc K.tUuid)],.region 1 (uuDraw g K).toArray true,rg [mk (some 8) (.load K.tUuid (tm 3)),mk none (.store K.tUuid (tm 2) (tm 8))],.ret]
def cRdTags (g:G) (K:Kn):Code:=sq [rg [mk (some 2) (.alloc g.tTags)],rg [mk (some 3) (.alloc g.tTags)],.seq (rg [mk (some 7) (.move (tm 0)),cl (some 8) g.uv [tm 7],mk (some 4) (.assign (tm 8))])
 (.block 0 (.loop (.seq (.seq (rg [mk (some 9) (.move (tm 4)),mk (some 10) (.binOp .gtr K.tU32 (tm 9) (ki .u32 0) 0)]) (.cond (tm 10) .skip (.exit 0)))
  (.seq (.block 1 (.seq (rg [mk (some 13) (.move (tm 0)),cl (some 14) g.uv [tm 13],mk (some 15) (.move (tm 0)),cl (some 16) g.uv [tm 15],mk (some 5) (.assign (tm 14)),mk (some 6) (.assign (tm 16))])
   (rg [mk (some 17) (.move (tm 5)),mk (some 18) (.move (tm 0)),mk (some 19) (.move (tm 6)),mk (some 20) (.convert K.tU32 K.tInt (tm 19)),cl (some 21) g.span [tm 18,tm 20],cl (some 22) g.set [tm 3,tm 17,tm 21]])))
   (rg [mk (some 11) (.move (tm 4)),mk (some 12) (.binOp .sub K.tU32 (tm 11) (ki .u32 1) 0),mk (some 4) (.assign (tm 12))]))))),
 rg [mk (some 23) (.load g.tTags (tm 3)),mk none (.store g.tTags (tm 2) (tm 23))],.ret]
section
variable {P:Program} {g:G} {K:Kn}
theorem wp_value {o:Oper} {a:Act} {w w':World} {v:Value} {K':Act->World->Prop} {Q':Exit->Act->World->Prop} (h:(execOp a.eval o).run P w=.ok (.value v) w') (hn:K' (a.put o.dst v) w'):o.wp P a w K' Q':=by
 unfold Oper.wp;rw [h];exact hn
theorem run_copy_row {w:World} {dT sT ty elem:TypeId} {b o dLen dCap sLen sCap:Nat} {p:Addr} {cs:List Value} {cur:Array Value} {te:TypeId}
  (hu:P.underlying dT=some (.slice elem)) (hs:∀ w,(sizeOf elem).run P w=.ok 1 w) (hn:Nat.min sLen dLen=cs.length)
  (hsrc:∀ j v,cs[j]?=some v->w.cell? (p.add j)=some v) (hb:w.heap[b]?=some (.cells cur te (0,0))) (ho:o + cs.length<=cur.size) (h1:∀ v ∈ cs,v.oneCell'=true) :
  (Builtin.copy_ #[dT,sT] ty #[.slice (some ⟨b,o,none⟩) dLen dCap,.slice (some p) sLen sCap]).run P w=.ok (goInt cs.length) (w.setRow b (qt_ cur o cs)):=by
 have hl:=run_loadCells_list (P:=P) w p cs hsrc
 have hst:=run_storeCells_at P b o te cs 0 cur w hb (by simpa using ho) h1
 simp only [Nat.add_zero] at hst
 simp [Builtin.copy_,run_underlying hu,Builtin.lenOf,Builtin.firstCells,hs,hn,hl,hst,qt_]
theorem run_copy_nil {w:World} {dT sT ty elem:TypeId} {d a:Option Addr} {dLen dCap sLen sCap:Nat} (hu:P.underlying dT=some (.slice elem)) (hs:∀ w,(sizeOf elem).run P w=.ok 1 w) (hn:Nat.min sLen dLen=0) :
  (Builtin.copy_ #[dT,sT] ty #[.slice d dLen dCap,.slice a sLen sCap]).run P w=.ok (goInt 0) w:=by
 have hl:∀ (x:Addr),(loadCells x 0).run P w=.ok #[] w:=fun x=>by simpa using run_loadCells_list (P:=P) w x [] (by simp)
 cases d <;> cases a <;> simp [Builtin.copy_,run_underlying hu,Builtin.lenOf,Builtin.firstCells,hs,hn,storeCells,hl]
theorem oct_one {l:List UInt8}:∀ u ∈ l.map (fun b=>Value.int .u8 (b.toNat:Int)),u.oneCell'=true:=by
 intro u hu
 obtain ⟨b,_,rfl⟩:=List.mem_map.1 hu
 rfl
theorem run_loadVar_row {F p n:Nat} {w:World} {cs:List Value} (hV:jp_ P F true n) (hn:cs.length=n) (hb:w.heap[p]?=some (.cells cs.toArray F (0,0))):(loadVar F ⟨p,0,none⟩).run P w=.ok (.agg cs.toArray) w:=by
 have hl:=run_loadCells_list (P:=P) w ⟨p,0,none⟩ cs (fun j u hj=>by
  rw [Addr.add_lit]
  simp [World.cell?,hb,hj])
 simp [loadVar,hV.agg w,hV.size w,<- hn,hl]
theorem RdS.keepNl {X:Nat->Prop} {w w':World} {T S R:Nat} {r:RS} (h:RdS w T S R r) (hk:Keeps X w w') (hS:r.nl=false->¬ X S) (hR:¬ X R):RdS w' T S R r:=by
 have hlt:=h.lt
 obtain ⟨v,hb,hs⟩:=h
 refine ⟨v,by rw [hk.block R hlt hR];exact hb,?_⟩
 rcases hs with hs | ⟨o,c,h1,h2,h3⟩
 ·exact .inl hs
 ·exact jz_.keep (.inr ⟨o,c,h1,h2,h3⟩) hk (hS h2)
theorem rdOk_uuid {T:Nat} (kt:KT P g K) (ks:KSub P g K T) (hSk:za_ g.span=true) (hV:jp_ P K.tUuid true 16) (hz:∀ w,(zeroValue K.tUuid).run P w=.ok (.agg (Array.replicate 16 (.int .u8 0))) w) (hA:P.underlying K.tUuid=some (.array 16 K.tU8))
  {f ntmps:Nat} (hfn:FnIsC P f ntmps 2 K.tUuid (cUuid g K)) (hnt:9<=ntmps):RdOk P T .uuid f:=by
 refine ⟨hfn.ent,fun w S R r hR hRS=>hfn.calls kt.mixed ?_⟩
 have hsz':({ tmps:=#[pt R 0]++Array.replicate (ntmps - (#[pt R 0]:Array Value).size) undef,defers:=[] }:Act).tmps.size=ntmps:=jo_ #[pt R 0] ntmps (by show 1<=ntmps;omega)
 have hg0:({ tmps:=#[pt R 0]++Array.replicate (ntmps - (#[pt R 0]:Array Value).size) undef,defers:=[] }:Act).get 0=pt R 0:=by rw [ja_ _ _ _ (by simp)];rfl
 have hd0:({ tmps:=#[pt R 0]++Array.replicate (ntmps - (#[pt R 0]:Array Value).size) undef,defers:=[] }:Act).defers=[]:=rfl
 generalize ({ tmps:=#[pt R 0]++Array.replicate (ntmps - (#[pt R 0]:Array Value).size) undef,defers:=[] }:Act)=a at hg0 hd0 hsz' ⊢
 have hRl:=hR.lt
 unfold cUuid
 refine qh_ (qj_ (zp_ (hz w) (wpList_nil ?_)))
 refine qh_ (qj_ (zp_ (hz _) (wpList_nil ?_)))
 let Z:Obj:=.cells (Value.agg (Array.replicate 16 (.int .u8 0))).cells K.tUuid (0,0)
 have hkA:Keeps (fun _=>False) w ((w.alloc Z).alloc Z):=(Keeps.alloc _ _ _).trans (Keeps.alloc _ _ _)
 have hb2:((w.alloc Z).alloc Z).heap[w.heap.size]?=some Z:=by rw [q4_ (by simp)];exact heap_alloc_new _ _
 have hb3:((w.alloc Z).alloc Z).heap[w.heap.size + 1]?=some Z:=by
  have:=heap_alloc_new (w.alloc Z) Z
  rw [show (w.alloc Z).heap.size=w.heap.size + 1 by simp] at this
  exact this
 have hszA:((w.alloc Z).alloc Z).heap.size=w.heap.size + 2:=by simp
 have hsw:(w.alloc Z).heap.size=w.heap.size + 1:=by simp
 show NWP P _ _ ((a.put (some 2) (.pointer (some ⟨w.heap.size,0,none⟩))).put (some 3) (.pointer (some ⟨(w.alloc Z).heap.size,0,none⟩))) ((w.alloc Z).alloc Z)
 rw [hsw]
 generalize (w.alloc Z).alloc Z=w2 at hkA hb2 hb3 hszA ⊢
 have e0:((a.put (some 2) (.pointer (some ⟨w.heap.size,0,none⟩))).put (some 3) (.pointer (some ⟨w.heap.size + 1,0,none⟩))).get 0=pt R 0:=by rw [gpo (by omega),gpo (by omega)];exact hg0
 have e2:((a.put (some 2) (.pointer (some ⟨w.heap.size,0,none⟩))).put (some 3) (.pointer (some ⟨w.heap.size + 1,0,none⟩))).get 2=pt w.heap.size 0:=by rw [gpo (by omega),gpe (by omega)];rfl
 have e3:((a.put (some 2) (.pointer (some ⟨w.heap.size,0,none⟩))).put (some 3) (.pointer (some ⟨w.heap.size + 1,0,none⟩))).get 3=pt (w.heap.size + 1) 0:=by rw [gpe (by simp only [qa_];omega)];rfl
 have es:((a.put (some 2) (.pointer (some ⟨w.heap.size,0,none⟩))).put (some 3) (.pointer (some ⟨w.heap.size + 1,0,none⟩))).tmps.size=ntmps:=by simp only [qa_];exact hsz'
 have ed:((a.put (some 2) (.pointer (some ⟨w.heap.size,0,none⟩))).put (some 3) (.pointer (some ⟨w.heap.size + 1,0,none⟩))).defers=[]:=by simp only [qf_];exact hd0
 generalize (a.put (some 2) (.pointer (some ⟨w.heap.size,0,none⟩))).put (some 3) (.pointer (some ⟨w.heap.size + 1,0,none⟩))=a2 at e0 e2 e3 es ed ⊢
 have hR2:RdS w2 T S R r:=hR.keep hkA id id
 have hlo:xd_ (uuDraw g K)=[false,false,true,true]:=by kernel_rfl
 let res:List UInt8:=if r.src.length < 16 then List.replicate 16 0 else r.src.take 16
 have hres:res.length=16:=by
  show (if r.src.length < 16 then List.replicate 16 (0:UInt8) else r.src.take 16).length=16
  split <;> simp <;> omega
 refine qh_ (.mono (R:=Rt (fun a' w'=>a'.get 2=pt w.heap.size 0/\a'.get 3=pt (w.heap.size + 1) 0/\a'.tmps.size=ntmps/\a'.defers=[]/\RdS w' T S R (PF.run .uuid r).2/\Keeps (·=R) w w'/\w'.heap[w.heap.size]?=some Z /\
   w'.heap[w.heap.size + 1]?=some (.cells (res.map fun b=>.int .u8 (b.toNat:Int)).toArray K.tUuid (0,0))/\w.heap.size + 2<=w'.heap.size) fun _ _=>False) ?_ fun e a5 w5 hq=>?_)
 ·refine .drw (fun _=>True) ?_
  rw [hlo]
  show evF P _ [mk (some 4) (.slice K.tUuid (tm 3) none none none),mk (some 5) (.move (tm 0))] a2 fun af=>wpLd P _ _ [cl (some 6) g.span [tm 5,ki .i64 16],bi (some 7) .copy [tm 4,tm 6] [K.tSl,K.tSl] K.tInt] af w2.drew
  refine ⟨.slice (some ⟨w.heap.size + 1,0,none⟩) 16 16,fun w' _=>?_,?_⟩
  ·have e3':a2.eval (tm 3)=.pointer (some ⟨w.heap.size + 1,0,none⟩):=e3
   simp [execOp,mk,e3',Instr.sliceAt,run_underlying hA,Instr.sureAddr,Instr.sliceBounds,kt.u8.size w',Addr.add_lit]
  refine ⟨pt R 0,fun w' _=>?_,⟨trivial,?_⟩⟩
  ·have:(a2.put (some 4) (.slice (some ⟨w.heap.size + 1,0,none⟩) 16 16)).eval (tm 0)=pt R 0:=by rw [qb_,gpo (by omega)];exact e0
   exact congrArg (fun v=>Result.ok (Next.value v) w') this
  ·have hkd:Keeps (fun _=>False) w2 w2.drew:=Keeps.drew _ _
   refine wp_callK (vs:=#[pt R 0,.int .i64 16]) rfl (ks.eS hSk) ?_ (ks.cS hSk w2.drew S R r 16 (hR2.keep hkd id id) hRS) fun e w3 hR3=>?_
   ·have h5:=zw_ (a2.put (some 4) (.slice (some ⟨w.heap.size + 1,0,none⟩) 16 16)) 5 (pt R 0) (by simp only [qa_];omega)
    exact congrArg (fun v=>#[v,Value.int .i64 16]) h5
   obtain ⟨v,he,hrd3,hk3,hv⟩:=hR3
   refine ⟨v,he,trivial,?_⟩
   have hk03:Keeps (·=R) w w3:=(hkA.mono fun _ _ h=>h.elim).trans ((hkd.mono fun _ _ h=>h.elim).trans hk3)
   have hz3:=hk3.size
   have hzd:w2.drew.heap.size=w2.heap.size:=rfl
   have hb23:w3.heap[w.heap.size]?=some Z:=by rw [hk3.block _ (by omega) (by omega)];exact hb2
   have hb33:w3.heap[w.heap.size + 1]?=some Z:=by rw [hk3.block _ (by omega) (by omega)];exact hb3
   have g2:(((a2.put (some 4) (.slice (some ⟨w.heap.size + 1,0,none⟩) 16 16)).put (some 5) (pt R 0)).put (some 6) v).get 2=pt w.heap.size 0:=by rw [gpo (by omega),gpo (by omega),gpo (by omega)];exact e2
   have g3:(((a2.put (some 4) (.slice (some ⟨w.heap.size + 1,0,none⟩) 16 16)).put (some 5) (pt R 0)).put (some 6) v).get 3=pt (w.heap.size + 1) 0:=by rw [gpo (by omega),gpo (by omega),gpo (by omega)];exact e3
   have g4:(((a2.put (some 4) (.slice (some ⟨w.heap.size + 1,0,none⟩) 16 16)).put (some 5) (pt R 0)).put (some 6) v).eval (tm 4)=.slice (some ⟨w.heap.size + 1,0,none⟩) 16 16:=by rw [qb_,gpo (by omega),gpo (by omega),gpe (by omega)]
   have g6:(((a2.put (some 4) (.slice (some ⟨w.heap.size + 1,0,none⟩) 16 16)).put (some 5) (pt R 0)).put (some 6) v).eval (tm 6)=v:=by rw [qb_,gpe (by simp only [qa_];omega)]
   have hrun:∀ (x:Value) (w':World),(Builtin.copy_ #[K.tSl,K.tSl] K.tInt #[.slice (some ⟨w.heap.size + 1,0,none⟩) 16 16,v]).run P w3=.ok x w' ->
     (execOp (((a2.put (some 4) (.slice (some ⟨w.heap.size + 1,0,none⟩) 16 16)).put (some 5) (pt R 0)).put (some 6) v).eval (bi (some 7) .copy [tm 4,tm 6] [K.tSl,K.tSl] K.tInt)).run P w3=.ok (.value x) w':=by
    intro x w' hx
    simp [execOp,bi,resolve,invoke,g4,g6,builtin,hx]
   by_cases hlt:r.src.length < 16
   ·-- too few
    have hsp:qo_ 16 r=(.nul,.fail):=by simp only [qo_];rw [if_pos (.inl (by omega))]
    rw [hsp] at hv hrd3
    have hres':res=List.replicate 16 0:=if_pos hlt
    have hv0:∃ d c,v=.slice d 0 c:=by
     rcases hv with ⟨rfl,_⟩ | ⟨o,c,hv,hn,_⟩
     ·exact ⟨_,_,rfl⟩
     ·exact ⟨_,c,hv⟩
    obtain ⟨d,c,rfl⟩:=hv0
    refine wp_value (hrun _ _ (run_copy_nil kt.sl kt.u8.size (by simp))) ⟨trivial,?_⟩
    refine ⟨?_,?_,?_,?_,?_,hk03,hb23,?_,by omega⟩
    ·show Act.get (Act.put _ (some 7) _) 2=_
     rw [gpo (by omega)];exact g2
    ·show Act.get (Act.put _ (some 7) _) 3=_
     rw [gpo (by omega)];exact g3
    ·simp only [qa_];exact es
    ·simp only [qf_];exact ed
    ·simp only [PF.run];rw [if_pos hlt];exact hrd3
    ·rw [hb33,hres']
     rfl
   ·have hnlS:r.nl=false/\S < w.heap.size:=by
     obtain ⟨vv,_,hs⟩:=hR
     rcases hs with ⟨_,h2,_⟩ | ⟨_,_,_,h2,_,_,h3,_⟩
     ·rw [h2] at hlt;simp at hlt
     ·exact ⟨h2,h3⟩
    obtain ⟨hnl,hSl⟩:=hnlS
    have hsp:qo_ 16 r=(.s (r.src.take 16),⟨r.src.drop 16,r.bad,r.nl⟩):=by
     simp only [qo_];rw [if_neg (by omega),hnl];rfl
    rw [hsp] at hv hrd3
    have hres':res=r.src.take 16:=if_neg hlt
    have hl16:(r.src.take 16).length=16:=by simp;omega
    rcases hv with ⟨rfl,h2,_⟩ | ⟨o,c,rfl,_,_,_,_,hoct⟩
    ·simp only [V.octets] at h2;rw [h2] at hl16;simp at hl16
    ·simp only [V.octets] at hoct
     have hcs:∀ j u,((r.src.take 16).map fun b=>Value.int .u8 (b.toNat:Int))[j]?=some u->w3.cell? ((⟨S,o,none⟩:Addr).add j)=some u:=by
      intro j u hj
      rw [Addr.add_lit]
      simp only [List.getElem?_map,Option.map_eq_some_iff] at hj
      obtain ⟨b,hb,rfl⟩:=hj
      exact hoct j b hb
     have hrow:=run_copy_row (P:=P) (dT:=K.tSl) (sT:=K.tSl) (ty:=K.tInt) (o:=0) (dLen:=16) (dCap:=16) (sLen:=(r.src.take 16).length) (sCap:=c) kt.sl kt.u8.size (by rw [List.length_map,hl16];rfl) hcs hb33 (by rw [List.length_map,hl16];simp [Value.cells]) oct_one
     have hk4:Keeps (·=w.heap.size + 1) w3 (w3.setRow (w.heap.size + 1) (qt_ (Value.agg (Array.replicate 16 (.int .u8 0))).cells 0 ((r.src.take 16).map fun b=>Value.int .u8 (b.toNat:Int)))):=Keeps.setRow _ _ _ _ rfl
     refine wp_value (hrun _ _ hrow) ⟨trivial,?_⟩
     refine ⟨?_,?_,?_,?_,?_,?_,?_,?_,?_⟩
     ·show Act.get (Act.put _ (some 7) _) 2=_
      rw [gpo (by omega)];exact g2
     ·show Act.get (Act.put _ (some 7) _) 3=_
      rw [gpo (by omega)];exact g3
     ·simp only [qa_];exact es
     ·simp only [qf_];exact ed
     ·simp only [PF.run];rw [if_neg hlt];exact hrd3.keep hk4 (by omega) (by omega)
     ·refine ⟨hk4.os.trans hk03.os,hk4.tape.trans hk03.tape,hk4.output.trans hk03.output,by have:=hk4.size;omega,fun i hi hx=>?_⟩
      rw [hk4.block i (by omega) (by omega),hk03.block i hi hx]
     ·rw [hk4.block _ (by omega) (by omega)];exact hb23
     ·rw [setRow_heap _ _ _ _ _ _ hb33,hres',zu_ (by rw [List.length_map,hl16];simp [Value.cells])]
     ·have:=hk4.size;omega
 ·cases e <;> first | exact hq.elim | skip
  obtain ⟨h2,h3,hs,hd,hrd,hk,hb2',hb3',hzz⟩:=hq
  refine qh_ (qj_ ?_)
  have hl16:((res.map fun b=>Value.int .u8 (b.toNat:Int))).length=16:=by rw [List.length_map];exact hres
  refine wl_loadN (b:=_) (o:=0) (cs:=res.map fun b=>Value.int .u8 (b.toNat:Int)) (by rw [qb_];exact h3) (hV.agg _) (by rw [hl16];exact hV.size _) ?_ ?_
  ·intro j v hj
   simp only [World.cell?,hb3',Nat.zero_add,List.getElem?_toArray]
   simp [hj]
  refine q8_ (g:=_) (o:=0) (cur:=(Value.agg (Array.replicate 16 (.int .u8 0))).cells) (t:=K.tUuid) (vs:=res.map fun b=>Value.int .u8 (b.toNat:Int)) (by rw [qb_,gpo (by omega)];exact h2) (by rw [qb_,gpe (by omega)]) rfl (by rw [hl16];exact hV.size _) hb2' (by rw [hl16];simp [Value.cells]) oct_one (wpList_nil ?_)
  refine qh_ (.ret ?_)
  have hk4:Keeps (·=w.heap.size) w5 (w5.setRow w.heap.size (qt_ (Value.agg (Array.replicate 16 (.int .u8 0))).cells 0 (res.map fun b=>Value.int .u8 (b.toNat:Int)))):=Keeps.setRow _ _ _ _ rfl
  have hb4:=setRow_heap w5 _ _ (qt_ (Value.agg (Array.replicate 16 (.int .u8 0))).cells 0 (res.map fun b=>Value.int .u8 (b.toNat:Int))) _ _ hb2'
  rw [zu_ (by rw [hl16];simp [Value.cells])] at hk4 hb4 ⊢
  refine ⟨by simp only [qf_];exact hd,⟨w.heap.size,0,none⟩,_,by rw [gpo (by omega)];exact h2,run_loadVar_row hV hl16 hb4,_,rfl,hrd.keepNl hk4 (fun hnl hS=>?_) (by omega),?_,?_⟩
  ·simp only [PF.run] at hnl
   split at hnl
   ·cases hnl
   ·obtain ⟨vv,_,hs'⟩:=hR
    rcases hs' with ⟨_,_,h7⟩ | ⟨_,_,_,_,_,_,h3,_⟩
    ·rw [h7] at hnl;cases hnl
    ·omega
  ·refine ⟨hk4.os.trans hk.os,hk4.tape.trans hk.tape,hk4.output.trans hk.output,by have:=hk4.size;omega,fun i hi hx=>?_⟩
   rw [hk4.block i (by omega) (by omega),hk.block i hi hx]
  ·intro X _ _
   refine ⟨res,hres,by simp [Value.cells],?_⟩
   show (PF.run .uuid r).1=.s res
   simp only [PF.run]
   by_cases hlt:r.src.length < 16
   ·rw [if_pos hlt];exact congrArg V.s (if_pos hlt).symm
   ·rw [if_neg hlt];exact congrArg V.s (if_neg hlt).symm
end
def uIdx (K:Kn) (i n:Nat):List Oper:=[mk (some n) (.move (tm 0)),mk (some (n + 1)) (.indexAddr K.tSl (tm n) (ki .i64 i)),mk (some (n + 2)) (.load K.tU8 (tm (n + 1)))]
def uShort (K:Kn) (k:Nat):GC:=gIf 2 3 (fun n=>[mk (some n) (.move (tm 0)),bi (some (n + 1)) .len [tm n] [K.tSl] K.tInt,mk (some (n + 2)) (.binOp .lss K.tInt (tm (n + 1)) (ki .i64 k) 0)]) (q3_ (.goto 0)) jk_
def uFirst (K:Kn):GC:=qu_ 5 fun n=>uIdx K 0 n++[mk (some (n + 3)) (.binOp .and K.tU8 (tm (n + 2)) (ki .u8 127) 0),mk (some (n + 4)) (.convert K.tU8 K.tU32 (tm (n + 3))),mk (some 4) (.assign (tm (n + 4)))]
def uRet (i:Nat):GC:=gS [qu_ 1 fun n=>[mk (some n) (.move (tm 4)),mk (some 2) (.assign (tm n)),mk (some 3) (.assign (ki .i64 i))],q3_ .ret]
def uTest (K:Kn) (i:Nat):GC:=gIf 4 5 (fun n=>uIdx K i n++[mk (some (n + 3)) (.binOp .and K.tU8 (tm (n + 2)) (ki .u8 128) 0),mk (some (n + 4)) (.binOp .eql K.tU8 (tm (n + 3)) (ki .u8 0) 0)]) (uRet (i + 1)) (uShort K (i + 2))
def uNext (K:Kn) (i s:Nat):GC:=qu_ 8 fun n=>mk (some n) (.move (tm 4)) :: (uIdx K i (n + 1)++[mk (some (n + 4)) (.binOp .and K.tU8 (tm (n + 3)) (ki .u8 127) 0),mk (some (n + 5)) (.convert K.tU8 K.tU32 (tm (n + 4))),mk (some (n + 6)) (.binOp .shl K.tU32 (tm (n + 5)) (ki .u64 s) 0),mk (some (n + 7)) (.binOp .or K.tU32 (tm n) (tm (n + 6)) 0),mk (some 4) (.assign (tm (n + 7)))])
def uLast (K:Kn):GC:=qu_ 7 fun n=>mk (some n) (.move (tm 4)) :: (uIdx K 4 (n + 1)++[mk (some (n + 4)) (.convert K.tU8 K.tU32 (tm (n + 3))),mk (some (n + 5)) (.binOp .shl K.tU32 (tm (n + 4)) (ki .u64 28) 0),mk (some (n + 6)) (.binOp .or K.tU32 (tm n) (tm (n + 5)) 0),mk (some 4) (.assign (tm (n + 6)))])
def uEnd (K:Kn):GC:=gIf 3 4 (fun n=>uIdx K 4 n++[mk (some (n + 3)) (.binOp .leq K.tU8 (tm (n + 2)) (ki .u8 15) 0)]) (uRet 5) jk_
def uAll (K:Kn):List GC:=[ji_ 4 (.int .u32 0),ji_ 5 (.int .i64 0),uShort K 1,uFirst K,uTest K 0,uNext K 1 7,uTest K 1,uNext K 2 14,uTest K 2,uNext K 3 21,uTest K 3,uLast K,uEnd K,ji_ 5 (.int .i64 (-5)),q3_ (.label 0),
 qu_ 1 fun n=>[mk (some n) (.move (tm 5)),mk (some 2) (.assign (ki .u32 0)),mk (some 3) (.assign (tm n))],q3_ .ret]
def cUvIn (K:Kn):Code:=.seq (rg [mk (some 2) (.assign (ki .u32 0)),mk (some 3) (.assign (ki .i64 0))]) (.scope (sq (gL (uAll K) 6).1))
def cUv (K:Kn):Code:=(gS [ji_ 2 (.int .u32 0),
 qu_ 7 fun n=>kSrc K 0 n++[cl (some (n + 4)) K.fUv [tm (n + 3)],mk (some 5) (.move (tm (n + 4))),mk (some (n + 5)) (.extract (tm 5) 0),mk (some (n + 6)) (.extract (tm 5) 1),mk (some 3) (.assign (tm (n + 5))),mk (some 4) (.assign (tm (n + 6)))],
 gIf 1 2 (fun n=>[mk (some n) (.move (tm 4)),mk (some (n + 1)) (.binOp .leq K.tInt (tm n) (ki .i64 0) 0)]) (kFail K (.int .u32 0)) jk_,kAdvS K 4,jf_ 3 2,q3_ .ret] 6).1
end Go.Proofs.YtlmanancakaapaaGreatDoor.Kx
