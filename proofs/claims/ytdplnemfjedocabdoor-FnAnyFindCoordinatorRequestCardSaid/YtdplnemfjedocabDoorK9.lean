/-
  PLAIN LAWS AND CONTRACTS of messages, part 9 of 14: how readers and writers are printed, what they do, what the reference writes, and that what is written is read as the same. Nothing of a statement stands here.
-/
import Derived.Test.YtdplnemfjedocabDoorK1
import Derived.Test.YtdplnemfjedocabDoorK3
import Derived.Test.YtdplnemfjedocabDoorK4
import Derived.Test.YtdplnemfjedocabDoorK6
import Derived.Test.YtdplnemfjedocabDoorK7
import Derived.Test.YtdplnemfjedocabDoorK8

namespace Go.Proofs.YtdplnemfjedocabDoor.Kx
open Go
section
variable {P:Program} {K:Kn}
theorem wl_shr {ops:Array Oper} {Q:Exit->Act->World->Prop} {r:List Oper} {a:Act} {w:World} {d:Option Nat} {T:Nat} {y:Operand} {k:IntKind} {x:Int} {s:Nat} (hy:a.eval y=.int k x) (hs:s<=k.bits)
  (h:wpList P ops Q r (a.put d (.int k (x / 2 ^ s))) w):wpList P ops Q (mk d (.binOp .shr T y (ki .u64 s) 0) :: r) a w:=by
 refine qn_ (w':=w) ?_ h
 have e2:a.eval (ki .u64 s)=.int .u64 s:=rfl
 have hrun:=run_shr (P:=P) (k:=k) (A:=T) (x:=x) hs w
 simp [execOp,mk,hy,e2,eqGuard,hrun]
theorem wl_index {ops:Array Oper} {Q:Exit->Act->World->Prop} {r:List Oper} {a:Act} {w:World} {d:Option Nat} {T:Nat} {y:Operand} {l:List UInt8} {k:IntKind} {i:Nat} {b:UInt8} (hT:P.underlying T=some .string) (hy:a.eval y=.int k i) (hi:l[i]?=some b)
  (h:wpList P ops Q r (a.put d (.int .u8 (b.toNat:Int))) w):wpList P ops Q (mk d (.index T (.const (strV l)) y) :: r) a w:=by
 refine qn_ (w':=w) ?_ h
 have e2:a.eval (.const (strV l))=.string ⟨l.toArray⟩:=rfl
 have e3:(⟨l.toArray⟩:ByteArray)[i]?=some b:=by
  have hlt:i < l.length:=(List.getElem?_eq_some_iff.1 hi).1
  have hb:=(List.getElem?_eq_some_iff.1 hi).2
  rw [getElem?_pos _ i (by simpa [ByteArray.size] using hlt)]
  congr 1
 simp [execOp,mk,hy,e2,Instr.index,asIntOf,run_underlying hT,e3]
theorem len8_get {y:Nat} (h:y < 256):len8[y]?=some (len8.getD y 0):=by
 have hl:len8.length=256:=by simp [len8]
 rw [List.getD_eq_getElem?_getD,List.getElem?_eq_getElem (by omega)]
 rfl
theorem uvTab_get {y:Nat} (h:y < 256):uvTab[y]?=some (uvTab.getD y 0):=by
 have hl:uvTab.length=256:=by simp [uvTab]
 rw [List.getD_eq_getElem?_getD,List.getElem?_eq_getElem (by omega)]
 rfl
theorem wrap_small {k:IntKind} {m:Nat} (h:m < 128):k.wrap (m:Int)=m:=by
 cases k <;> simp [IntKind.wrap,IntKind.bits,IntKind.signed] <;> omega
theorem wrap_u8 {m:Nat} (h:m < 256):IntKind.u8.wrap (m:Int)=m:=by
 simp [IntKind.wrap,IntKind.bits,IntKind.signed];omega
theorem u8_i64 (b:UInt8):IntKind.i64.wrap (b.toNat:Int)=(b.toNat:Int):=by
 have:=b.toNat_lt
 simp [IntKind.wrap,IntKind.bits,IntKind.signed];omega
theorem run_add {k:IntKind} {A:Nat} {x y:Int} (w:World):(binOp .add A (.int k x) (.int k y)).run P w=.ok (.int k (k.wrap (x + y))) w:=by simp [binOp,Op.intArith]
theorem len32_calls (wt:WT P K) {tU f ntmps:Nat} (hU:P.underlying tU=some (.int .u32)) (hfn:FnIs P f ntmps [2] (cLen32 K tU)) (hnt:19<=ntmps) {x:Nat} (hx:x < 4294967296) (w:World) :
  Calls P f #[.int .u32 x] w fun e w'=>e=.returned (.int .i64 (l32 x:Nat))/\Keeps (fun _=>False) w w':=by
 refine calls1 wt.mixed hfn (by omega) fun a h0 hs hd=>?_
 refine qc_ (qj_ (qg_ (wpList_nil ?_)))
 have g0:(a.put (some 2) (.int .i64 0)).get 0=.int .u32 x:=by rw [gpo (by omega)];exact h0
 have g2:(a.put (some 2) (.int .i64 0)).get 2=.int .i64 0:=gpe (by omega)
 have gs:(a.put (some 2) (.int .i64 0)).tmps.size=ntmps:=by rw [qa_];exact hs
 have gd:(a.put (some 2) (.int .i64 0)).defers=[]:=by rw [qe_];exact hd
 show LW P _ 3 _ (a.put (some 2) (.int .i64 0)) w
 generalize a.put (some 2) (.int .i64 0)=a at g0 g2 gs gd ⊢
 have first:∀ (l:List GC) (Q:Exit->Act->World->Prop),(∀ a',a'.get 0=.int .u32 ((l32a x).1:Nat)->a'.get 2=.int .i64 ((l32a x).2:Nat)->a'.tmps.size=ntmps->a'.defers=[]->LW P l 7 Q a' w) ->
   LW P (gIf 1 2 (fun n=>[mk (some n) (.move (tm 0)),mk (some (n + 1)) (.binOp .geq tU (tm n) (ki .u32 65536) 0)])
    (gS [qq_ 2 fun n=>[mk (some n) (.move (tm 0)),mk (some (n + 1)) (.binOp .shr tU (tm n) (ki .u64 16) 0),mk (some 0) (.assign (tm (n + 1)))],ji_ 2 (.int .i64 16)]) jq_ :: l) 3 Q a w:=by
  intro l Q h
  by_cases c:65536<=x
  ·refine qc_ (s_ifT (qd_ ?_))
   rw [qb_,g0]
   refine q5_ (b:=true) (p:=x) (q:=65536) (k:=.u32) (by rw [qb_,gpe (by omega)]) rfl (.inl ⟨rfl,by simp;omega⟩) (wpList_nil ⟨by rw [qb_,gpe (by simp only [qa_];omega)],?_⟩)
   refine q4_ (qc_ (qj_ (qd_ ?_)))
   rw [qb_,gpo (by omega),gpo (by omega),g0]
   refine wl_shr (k:=.u32) (x:=x) (s:=16) (by rw [qb_,gpe (by simp only [qa_];omega)]) (by decide) (qg_ (wpList_nil ?_))
   rw [qb_,gpe (by simp only [qa_];omega)]
   refine qc_ (qj_ (qg_ (wpList_nil (ja_ (h _ ?_ ?_ ?_ ?_)))))
   ·rw [gpo (by omega),gpe (by simp only [qa_];omega)]
    simp only [l32a,if_pos c]
    simp
   ·rw [gpe (by simp only [qa_];omega)]
    simp only [l32a,if_pos c]
    rfl
   ·simp only [qa_];exact gs
   ·simp only [qe_];exact gd
  ·refine qc_ (s_ifF (qd_ ?_))
   rw [qb_,g0]
   refine q5_ (b:=false) (p:=x) (q:=65536) (k:=.u32) (by rw [qb_,gpe (by omega)]) rfl (.inl ⟨rfl,by simp;omega⟩) (wpList_nil ⟨by rw [qb_,gpe (by simp only [qa_];omega)],.skip (h _ ?_ ?_ ?_ ?_)⟩)
   ·rw [gpo (by omega),gpo (by omega),g0]
    simp only [l32a,if_neg c]
   ·rw [gpo (by omega),gpo (by omega),g2]
    simp only [l32a,if_neg c]
    rfl
   ·simp only [qa_];exact gs
   ·simp only [qe_];exact gd
 refine first _ _ fun a g0 g2 gs gd=>?_
 generalize hp:l32a x=p at g0 g2
 have hp1:p.1 < 65536:=by rw [<- hp];simp only [l32a];split <;> simp <;> omega
 have hp2:p.2<=16:=by rw [<- hp];simp only [l32a];split <;> simp
 have second:∀ (l:List GC) (Q:Exit->Act->World->Prop),(∀ a',a'.get 0=.int .u32 ((l32b p).1:Nat)->a'.get 2=.int .i64 ((l32b p).2:Nat)->a'.tmps.size=ntmps->a'.defers=[]->LW P l 13 Q a' w) ->
   LW P (gIf 1 2 (fun n=>[mk (some n) (.move (tm 0)),mk (some (n + 1)) (.binOp .geq tU (tm n) (ki .u32 256) 0)])
    (gS [qq_ 2 fun n=>[mk (some n) (.move (tm 0)),mk (some (n + 1)) (.binOp .shr tU (tm n) (ki .u64 8) 0),mk (some 0) (.assign (tm (n + 1)))],
     qq_ 2 fun n=>[mk (some n) (.move (tm 2)),mk (some (n + 1)) (.binOp .add K.tInt (tm n) (ki .i64 8) 0),mk (some 2) (.assign (tm (n + 1)))]]) jq_ :: l) 7 Q a w:=by
  intro l Q h
  by_cases c:256<=p.1
  ·refine qc_ (s_ifT (qd_ ?_))
   rw [qb_,g0]
   refine q5_ (b:=true) (p:=p.1) (q:=256) (k:=.u32) (by rw [qb_,gpe (by omega)]) rfl (.inl ⟨rfl,by simp;omega⟩) (wpList_nil ⟨by rw [qb_,gpe (by simp only [qa_];omega)],?_⟩)
   refine q4_ (qc_ (qj_ (qd_ ?_)))
   rw [qb_,gpo (by omega),gpo (by omega),g0]
   refine wl_shr (k:=.u32) (x:=p.1) (s:=8) (by rw [qb_,gpe (by simp only [qa_];omega)]) (by decide) (qg_ (wpList_nil ?_))
   rw [qb_,gpe (by simp only [qa_];omega)]
   refine qc_ (qj_ (qd_ ?_))
   rw [qb_,gpo (by omega),gpo (by first | omega | simp [qq_]),gpo (by first | omega | simp [qq_]),gpo (by omega),gpo (by omega),g2]
   refine j9_ (k:=.i64) (m:=p.2) (n:=8) (by rw [qb_,gpe (by simp only [qa_];first | omega | (simp [qq_];omega))]) rfl (by simp) (run_add w) (qg_ (wpList_nil (ja_ (h _ ?_ ?_ ?_ ?_))))
   ·rw [gpo (by omega),gpo (by first | omega | simp [qq_]),gpo (by first | omega | simp [qq_]),gpe (by simp only [qa_];omega)]
    simp only [l32b,if_pos c]
    simp
   ·rw [gpe (by simp only [qa_];omega),qb_,gpe (by simp only [qa_];first | omega | (simp [qq_];omega))]
    simp only [l32b,if_pos c]
    have:((p.2:Int) + 8)=((p.2 + 8:Nat):Int):=by omega
    rw [this,wrap_small (by omega)]
   ·simp only [qa_];exact gs
   ·simp only [qe_];exact gd
  ·refine qc_ (s_ifF (qd_ ?_))
   rw [qb_,g0]
   refine q5_ (b:=false) (p:=p.1) (q:=256) (k:=.u32) (by rw [qb_,gpe (by omega)]) rfl (.inl ⟨rfl,by simp;omega⟩) (wpList_nil ⟨by rw [qb_,gpe (by simp only [qa_];omega)],.skip (h _ ?_ ?_ ?_ ?_)⟩)
   ·rw [gpo (by omega),gpo (by omega),g0]
    simp only [l32b,if_neg c]
   ·rw [gpo (by omega),gpo (by omega),g2]
    simp only [l32b,if_neg c]
   ·simp only [qa_];exact gs
   ·simp only [qe_];exact gd
 refine second _ _ fun a g0 g2 gs gd=>?_
 have hq1:(l32b p).1 < 256:=by simp only [l32b];split <;> omega
 have hq2:(l32b p).2<=24:=by simp only [l32b];split <;> (try dsimp only) <;> omega
 have hlx:l32 x=(l32b p).2 + (len8.getD (l32b p).1 0).toNat:=by simp only [l32,hp]
 have h8:=(len8_ok _ hq1).1
 rw [hlx]
 generalize l32b p=q at g0 g2 hq1 hq2 h8 ⊢
 refine qc_ (qj_ (qd_ (qd_ ?_)))
 rw [qb_,g2,qb_,gpo (by omega),g0]
 refine qu_ (k:=.u32) (k':=.u8) (m:=q.1) (by rw [qb_,gpe (by simp only [qa_];omega)]) hU wt.dU8 ?_
 rw [wrap_u8 hq1]
 refine wl_index wt.dStr (by rw [qb_,gpe (by simp only [qa_];omega)]) (len8_get hq1) ?_
 refine qu_ (k:=.u8) (k':=.i64) (m:=((len8.getD q.1 0).toNat:Int)) (by rw [qb_,gpe (by simp only [qa_];omega)]) wt.dU8 wt.dInt ?_
 rw [u8_i64]
 refine j9_ (k:=.i64) (m:=q.2) (n:=((len8.getD q.1 0).toNat:Int)) ?_ ?_ (by simp) (run_add w) ?_
 ·rw [qb_,gpo (by omega),gpo (by omega),gpo (by omega),gpo (by omega),gpe (by omega)]
 ·rw [qb_,gpe (by simp only [qa_];omega)]
 rw [show ((q.2:Int) + ((len8.getD q.1 0).toNat:Int))=((q.2 + (len8.getD q.1 0).toNat:Nat):Int) by omega,wrap_small (by omega)]
 refine qg_ (wpList_nil (qc_ (.ret ?_)))
 rw [qb_,gpe (by simp only [qa_];omega)]
 exact ⟨by simp only [qe_];exact gd,by rw [gpe (by simp only [qa_];omega)],Keeps.refl _ _⟩
theorem uvLen_calls (wt:WT P K) {tU f f2 ntmps nt2:Nat} (hU:P.underlying tU=some (.int .u32)) (hfn2:FnIs P f2 nt2 [2] (cLen32 K tU)) (hnt2:19<=nt2) (hfn:FnIs P f ntmps [2] (cUvLen K f2)) (hnt:8<=ntmps) {x:Nat} (hx:x < 4294967296) (w:World) :
  Calls P f #[.int .u32 x] w fun e w'=>e=.returned (.int .i64 (uvLen x:Nat))/\Keeps (fun _=>False) w w':=by
 obtain ⟨hl,hu⟩:=uv_l32 hx
 refine calls1 wt.mixed hfn (by omega) fun a h0 hs hd=>?_
 refine qc_ (qj_ (qg_ (wpList_nil ?_)))
 show LW P _ 3 _ (a.put (some 2) (.int .i64 0)) w
 refine qc_ (qj_ (qd_ ?_))
 rw [qb_,gpo (by omega),h0]
 refine qs_ (vs:=#[.int .u32 x]) hfn2.ent (by simp [qb_,gpe (show 3 < (a.put (some 2) (Value.int .i64 0)).tmps.size by rw [qa_];omega)]) (len32_calls wt hU hfn2 hnt2 hx w) fun e w' hR=>⟨_,hR.1,?_⟩
 refine qu_ (k:=.i64) (k':=.u8) (m:=(l32 x:Nat)) (by rw [qb_,gpe (by simp only [qa_];omega)]) wt.dInt wt.dU8 ?_
 rw [wrap_u8 (by omega)]
 refine wl_index wt.dStr (by rw [qb_,gpe (by simp only [qa_];omega)]) (uvTab_get (by omega)) ?_
 refine qu_ (k:=.u8) (k':=.i64) (m:=((uvTab.getD (l32 x) 0).toNat:Int)) (by rw [qb_,gpe (by simp only [qa_];omega)]) wt.dU8 wt.dInt ?_
 rw [u8_i64,hu]
 refine qg_ (wpList_nil (qc_ (.ret ?_)))
 rw [qb_,gpe (by simp only [qa_];omega)]
 exact ⟨by simp only [qe_];exact hd,by rw [gpe (by simp only [qa_];omega)],hR.2⟩
theorem uv_cases (wt:WT P K) {j L:Nat} {x:Int} {d:Value} {bs:Bs} {w:World} {E N:Act->World->Prop} (hx0:0<=x) (hx:x < 2 ^ IntKind.u32.bits) (hd:ju_ w L K.tU8 d bs) (hL:L<=w.heap.size) :
  ∀ (cs:List (Nat × List OE)) (es:List OE) (n:Nat) (a:Act),(∀ p ∈ cs,p.2 ≠ []/\p.2.length<=10/\∀ e ∈ p.2,∀ s,e.1=some s->s<=32)->cs.lookup j=some es->bs.length + es.length<=LIM->6 < n->(uvCases K cs n).2<=a.tmps.size->a.get 0=d->a.get 1=.int .u32 x->a.get 6=.int .i64 j ->
   (∀ a' w' d',a'.defers=a.defers->a'.get 4=d'->Gr L K.tU8 d w d' (bs++jm_ es x) w'->E a' w')->NWP P (uvCases K cs n).1 (Rt N E) a w
 | [],es,n,a,_,h,_,_,_,_,_,_,_=>by cases h
 | (i,es') :: cs,es,n,a,hok,h,hlim,hn,hs,h0,h1,h6,hE=>by
  have hup:∀ (cs:List (Nat × List OE)) (n:Nat),n<=(uvCases K cs n).2:=by
   intro cs
   induction cs with
   | nil=>intro n;exact Nat.le_refl _
   | cons p cs ih=>
    intro n
    obtain ⟨i,es⟩:=p
    have:=ih (gAppO K K.tU32 .u32 es (n + 2)).2
    have h2:(gAppO K K.tU32 .u32 es (n + 2)).2=n + 2 + (3 + oesLen es):=rfl
    simp only [uvCases]
    omega
  have hstep:=hup cs (gAppO K K.tU32 .u32 es' (n + 2)).2
  have h2:(gAppO K K.tU32 .u32 es' (n + 2)).2=n + 2 + (3 + oesLen es'):=rfl
  simp only [uvCases] at hs ⊢
  have hcmp:∀ (b:Bool) (X:Act->World->Prop),b=decide ((j:Int)=(i:Int))->(∀ a',Pv n 0 0 n a a'->a'.get n=.bool b->X a' w)->NWP P (rg [mk (some (n + 1)) (.binOp .eql K.tInt (tm 6) (ki .i64 i) 0),mk (some n) (.assign (tm (n + 1)))]) (Rt X E) a w:=by
   intro b X hb hX
   refine .reg (q5_ (b:=b) (p:=j) (q:=i) (k:=.i64) (by rw [qb_];exact h6) rfl (.inr (.inr (.inr (.inr (.inl ⟨rfl,hb⟩))))) (qg_ (wpList_nil ?_)))
   rw [qb_,gpe (by omega)]
   exact hX _ (((Pv.refl _ _ _ _ _).put _ (.inr (by omega))).put _ (.inl rfl)) (gpe (by rw [qa_];omega))
  by_cases hij:j=i
  ·subst hij
   rw [List.lookup_cons_self] at h
   obtain rfl:=Option.some.inj h
   refine .seq (hcmp true (fun a' w'=>NWP P (.cond (tm n) (gAppO K K.tU32 .u32 es' (n + 2)).1 (uvCases K cs (gAppO K K.tU32 .u32 es' (n + 2)).2).1) (Rt N E) a' w') (by simp) fun a' hp hg=>?_) (fun a' w' hh=>hh) (fun e a w he hq=>by cases e <;> first | exact absurd rfl he | exact hq)
   have hsz:=hp.size
   obtain ⟨o1,o2,o3⟩:=hok _ (List.mem_cons_self ..)
   refine .condT hg (s_appO wt.oct wt.dU32 wt.dU8 (by omega) (by rw [hp.get 0 (by omega) (by omega)];exact h0) (by rw [hp.get 1 (by omega) (by omega)];exact h1) (fun e he=>.inr ⟨.inr (.inl rfl),hx0,hx,o3 e he⟩) o1 o2 (by omega) hd hL hlim fun a'' w' d' hd' h4 hg'=>hE a'' w' d' (hd'.trans hp.defers) h4 hg')
  ·rw [List.lookup_cons,show (j == i)=false by simpa using hij] at h
   refine .seq (hcmp false (fun a' w'=>NWP P (.cond (tm n) (gAppO K K.tU32 .u32 es' (n + 2)).1 (uvCases K cs (gAppO K K.tU32 .u32 es' (n + 2)).2).1) (Rt N E) a' w') (by simp;omega) fun a' hp hg=>?_) (fun a' w' hh=>hh) (fun e a w he hq=>by cases e <;> first | exact absurd rfl he | exact hq)
   have hsz:=hp.size
   exact .condF hg (uv_cases wt hx0 hx hd hL cs es _ a' (fun p hp=>hok p (List.mem_cons_of_mem _ hp)) h hlim (by omega) (by omega) (by rw [hp.get 0 (by omega) (by omega)];exact h0) (by rw [hp.get 1 (by omega) (by omega)];exact h1) (by rw [hp.get 6 (by omega) (by omega)];exact h6)
    fun a'' w' d' hd' h4 hg'=>hE a'' w' d' (hd'.trans hp.defers) h4 hg')
theorem ap_uv (wt:WT P K) {tU f f1 f2 ntmps nt1 nt2:Nat} (hU:P.underlying tU=some (.int .u32)) (hfn2:FnIs P f2 nt2 [2] (cLen32 K tU)) (hnt2:19<=nt2) (hfn1:FnIs P f1 nt1 [2] (cUvLen K f2)) (hnt1:8<=nt1) (hfn:FnIs P f ntmps [4] (cAUv K f1)) (hnt:93<=ntmps)
  {x:Nat} (hx:x < 4294967296) (w:World):ApC P K.tU8 f (.int .u32 x) (uvar x) w:=by
 intro L d bs hd hL hlim
 obtain ⟨es,hes,hval⟩:=uvar_es hx
 refine calls2s wt.mixed hfn (by omega) fun a h0 h1 hs hdf=>?_
 refine qc_ (q4_ (qc_ (qj_ (qd_ ?_))))
 rw [qb_,h1]
 refine qs_ (vs:=#[.int .u32 x]) hfn1.ent (by simp [qb_,gpe (show 5 < a.tmps.size by omega)]) (uvLen_calls wt hU hfn2 hnt2 hfn1 hnt1 hx w) fun e w1 hR=>⟨_,hR.1,wpList_nil ?_⟩
 refine qc_ (.block ?_)
 have hlen:(jm_ es x).length=es.length:=by simp [jm_]
 refine .mono (uv_cases (E:=fun a' w'=>a'.defers=[]/\∃ d',.returned (a'.get 4)=Ending.returned d'/\Gr L K.tU8 d w d' (bs++uvar x) w') (N:=fun _ _=>False) wt (j:=uvLen x) (x:=x) (by omega) (by simp [IntKind.bits];omega) (hd.keep hR.2 fun _ _ h=>h) (by have:=hR.2.size;omega) uvEs es 7 _ (by decide) hes (by rw [<- hlen,hval];exact hlim) (by omega) (by simp only [qa_];rw [hs,show (uvCases K uvEs 7).2=92 from rfl];omega)
  (by rw [gpo (by omega),gpo (by omega)];exact h0) (by rw [gpo (by omega),gpo (by omega)];exact h1) (gpe (by simp only [qa_];omega)) fun a' w' d' hd' h4 hg=>⟨?_,d',by rw [h4],?_⟩) fun e a w hq=>?_
 ·rw [hd'];simp only [qe_];exact hdf
 ·rw [<- hval];exact Gr.pre hR.2 (fun _ _ h=>h) hg
 ·cases e <;> first | exact hq | exact hq.elim
end
section
variable {P:Program} {K:Kn}
theorem wl_ptrNil {ops:Array Oper} {Q:Exit->Act->World->Prop} {l:List Oper} {a:Act} {w:World} {d:Option Nat} {tP el:Nat} {x:Operand} {m:Option Addr} (hM:P.underlying tP=some (.pointer el)) (hx:a.eval x=.pointer m) (h:wpList P ops Q l (a.put d (.bool m.isNone)) w) :
  wpList P ops Q (mk d (.binOp .eql tP x (.const (.pointer none)) 0) :: l) a w:=by
 refine qn_ ?_ h
 have hc:a.eval (.const (.pointer none))=.pointer none:=rfl
 have he:(eqGuard .eql tP x (.const (.pointer none)) (.pointer m) (.pointer none)).run P w=.ok () w:=by simp [eqGuard]
 have hr:(binOp .eql tP (.pointer m) (.pointer none)).run P w=.ok (.bool m.isNone) w:=by
  have h1:(Op.equal tP (.pointer m) (.pointer none)).run P w=.ok m.isNone w:=by
   cases m with
   | none=>exact (show (Op.equalIn (9999 + 1) tP (.pointer none) (.pointer none)).run P w=_ from by
     have:∀ d:Nat,(Op.equalIn (d + 1) tP (.pointer none) (.pointer none)).run P w=.ok true w:=fun d=>by simp [Op.equalIn,run_underlying hM]
     exact this 9999)
   | some r=>exact (show (Op.equalIn (9999 + 1) tP (.pointer (some r)) (.pointer none)).run P w=_ from by
     have:∀ d:Nat,(Op.equalIn (d + 1) tP (.pointer (some r)) (.pointer none)).run P w=.ok false w:=fun d=>by simp [Op.equalIn,run_underlying hM]
     exact this 9999)
  simp [binOp,h1]
 simp [execOp,mk,hx,hc,he,hr]
theorem wl_slNil {ops:Array Oper} {Q:Exit->Act->World->Prop} {l:List Oper} {a:Act} {w:World} {d:Option Nat} {tS el:Nat} {x:Operand} {m:Option Addr} {n c:Nat} (hM:P.underlying tS=some (.slice el)) (hx:a.eval x=.slice m n c) (h:wpList P ops Q l (a.put d (.bool m.isNone)) w) :
  wpList P ops Q (mk d (.binOp .eql tS x (.const (.slice none 0 0)) 0) :: l) a w:=by
 refine qn_ ?_ h
 have hc:a.eval (.const (.slice none 0 0))=.slice none 0 0:=rfl
 have he:(eqGuard .eql tS x (.const (.slice none 0 0)) (.slice m n c) (.slice none 0 0)).run P w=.ok () w:=by simp [eqGuard]
 have hr:(binOp .eql tS (.slice m n c) (.slice none 0 0)).run P w=.ok (.bool m.isNone) w:=by
  have h1:(Op.equal tS (.slice m n c) (.slice none 0 0)).run P w=.ok m.isNone w:=by
   cases m with
   | none=>exact (show (Op.equalIn (9999 + 1) tS (.slice none n c) (.slice none 0 0)).run P w=_ from by
     have:∀ d:Nat,(Op.equalIn (d + 1) tS (.slice none n c) (.slice none 0 0)).run P w=.ok true w:=fun d=>by simp [Op.equalIn,run_underlying hM]
     exact this 9999)
   | some r=>exact (show (Op.equalIn (9999 + 1) tS (.slice (some r) n c) (.slice none 0 0)).run P w=_ from by
     have:∀ d:Nat,(Op.equalIn (d + 1) tS (.slice (some r) n c) (.slice none 0 0)).run P w=.ok false w:=fun d=>by simp [Op.equalIn,run_underlying hM]
     exact this 9999)
  simp [binOp,h1]
 simp [execOp,mk,hx,hc,he,hr]
theorem wl_ptrNe {ops:Array Oper} {Q:Exit->Act->World->Prop} {l:List Oper} {a:Act} {w:World} {d:Option Nat} {tP el:Nat} {x:Operand} {m:Option Addr} (hM:P.underlying tP=some (.pointer el)) (hx:a.eval x=.pointer m) (h:wpList P ops Q l (a.put d (.bool m.isSome)) w) :
  wpList P ops Q (mk d (.binOp .neq tP x (.const (.pointer none)) 0) :: l) a w:=by
 refine qn_ ?_ h
 have hc:a.eval (.const (.pointer none))=.pointer none:=rfl
 have he:(eqGuard .neq tP x (.const (.pointer none)) (.pointer m) (.pointer none)).run P w=.ok () w:=by simp [eqGuard]
 have hr:(binOp .neq tP (.pointer m) (.pointer none)).run P w=.ok (.bool m.isSome) w:=by
  have h1:(Op.equal tP (.pointer m) (.pointer none)).run P w=.ok m.isNone w:=by
   cases m with
   | none=>exact (show (Op.equalIn (9999 + 1) tP (.pointer none) (.pointer none)).run P w=_ from by
     have:∀ d:Nat,(Op.equalIn (d + 1) tP (.pointer none) (.pointer none)).run P w=.ok true w:=fun d=>by simp [Op.equalIn,run_underlying hM]
     exact this 9999)
   | some r=>exact (show (Op.equalIn (9999 + 1) tP (.pointer (some r)) (.pointer none)).run P w=_ from by
     have:∀ d:Nat,(Op.equalIn (d + 1) tP (.pointer (some r)) (.pointer none)).run P w=.ok false w:=fun d=>by simp [Op.equalIn,run_underlying hM]
     exact this 9999)
  cases m <;> simp [binOp,h1]
 simp [execOp,mk,hx,hc,he,hr]
theorem be_wrap {k:IntKind} {m:Nat} (h:(k=.i8/\m=1) \/ ((k=.i16 \/ k=.u16)/\m=2) \/ ((k=.i32 \/ k=.u32)/\m=4) \/ ((k=.i64 \/ k=.u64)/\m=8)) (x:Int):be m (k.wrap x)=be m x:=by
 rw [<- be_mod m (k.wrap x) m (Nat.le_refl _),<- be_mod m x m (Nat.le_refl _)]
 congr 1
 rcases h with ⟨rfl,rfl⟩ | ⟨rfl | rfl,rfl⟩ | ⟨rfl | rfl,rfl⟩ | ⟨rfl | rfl,rfl⟩ <;> simp [IntKind.wrap,IntKind.bits,IntKind.signed] <;> omega
theorem gr_ret {te L:Nat} {d d':Value} {bs enc:Bs} {w w':World} {x:Value} (hx:x=d') (hg:Gr L te d w d' (bs++enc) w'):∃ d',Ending.returned x=Ending.returned d'/\Gr L te d w d' (bs++enc) w':=⟨d',by rw [hx],hg⟩
theorem ap_i8 (wt:WT P K) (hF:j2_ K.tI8=true) {f ntmps:Nat} (hfn:FnIs P f ntmps [4] (cAI8 K)) (hnt:10<=ntmps) (x:Int) (w:World):ApC P K.tU8 f (.int .i8 x) (be 1 x) w:=by
 have h:=ap_oct wt (wt.dI8 hF) hfn (by simp [oesLen,oeLen];omega) (by simp) (by simp) (x:=x) (fun e he=>by simp at he;exact .inl he) w
 have e:jm_ [(none,false)] x=be 1 x:=by simp [jm_,oeVal,be]
 rwa [e] at h
theorem ap_u16 (wt:WT P K) (hF:j2_ K.tU16=true) {f ntmps:Nat} (hfn:FnIs P f ntmps [4] (cAU16 K)) (hnt:13<=ntmps) {x:Int} (hx:0<=x/\x < 65536) (w:World):ApC P K.tU8 f (.int .u16 x) (be 2 x) w:=by
 have h:=ap_oct wt (wt.dU16 hF) hfn (by simp [oesLen,oeLen];omega) (by simp) (by simp) (x:=x) (fun e he=>.inr ⟨.inl rfl,hx.1,by simp [IntKind.bits];omega,fun s hs=>by simp at he;rcases he with rfl | rfl <;> simp at hs;subst hs;decide⟩) w
 rwa [oes2] at h
theorem ap_u32 (wt:WT P K) {f ntmps:Nat} (hfn:FnIs P f ntmps [4] (cAU32 K)) (hnt:19<=ntmps) {x:Int} (hx:0<=x/\x < 4294967296) (w:World):ApC P K.tU8 f (.int .u32 x) (be 4 x) w:=by
 have h:=ap_oct wt wt.dU32 hfn (by simp [oesLen,oeLen];omega) (by simp) (by simp) (x:=x) (fun e he=>.inr ⟨.inr (.inl rfl),hx.1,by simp [IntKind.bits];omega,fun s hs=>by simp at he;rcases he with rfl | rfl | rfl | rfl <;> simp at hs <;> subst hs <;> decide⟩) w
 rwa [oes4] at h
theorem wrap_range {k:IntKind} (x:Int):(k=.u16->0<=k.wrap x/\k.wrap x < 65536)/\(k=.u32->0<=k.wrap x/\k.wrap x < 4294967296)/\(k=.u64->0<=k.wrap x/\k.wrap x < 18446744073709551616):=by
 refine ⟨?_,?_,?_⟩ <;> (intro h;subst h;simp [IntKind.wrap,IntKind.bits,IntKind.signed];omega)
theorem ap_i16 (wt:WT P K) (hF:j2_ K.tU16=true) {f f2 ntmps nt2:Nat} (hfn2:FnIs P f2 nt2 [4] (cAU16 K)) (hnt2:13<=nt2) (hfn:FnIs P f ntmps [4] (cACv K.tI16 K.tU16 f2)) (hnt:9<=ntmps) (x:Int) (w:World):ApC P K.tU8 f (.int .i16 x) (be 2 x) w:=
 ap_cv wt wt.dI16 (wt.dU16 hF) hfn hnt hfn2.ent (be_wrap (k:=.u16) (.inr (.inl ⟨.inr rfl,rfl⟩)) x ▸ ap_u16 wt hF hfn2 hnt2 ((wrap_range x).1 rfl) w)
theorem ap_i32 (wt:WT P K) {f f2 ntmps nt2:Nat} (hfn2:FnIs P f2 nt2 [4] (cAU32 K)) (hnt2:19<=nt2) (hfn:FnIs P f ntmps [4] (cACv K.tI32 K.tU32 f2)) (hnt:9<=ntmps) (x:Int) (w:World):ApC P K.tU8 f (.int .i32 x) (be 4 x) w:=
 ap_cv wt wt.dI32 wt.dU32 hfn hnt hfn2.ent (be_wrap (k:=.u32) (.inr (.inr (.inl ⟨.inr rfl,rfl⟩))) x ▸ ap_u32 wt hfn2 hnt2 ((wrap_range x).2.1 rfl) w)
theorem ap_len (wt:WT P K) {f f2 ntmps:Nat} (hE:Ent P f2) (hc:∀ x w,ApC P K.tU8 f2 (.int .i32 x) (be 4 x) w) (hfn:FnIs P f ntmps [4] (cACv K.tInt K.tI32 f2)) (hnt:9<=ntmps) (x:Int) (w:World):ApC P K.tU8 f (.int .i64 x) (be 4 x) w:=
 ap_cv wt wt.dInt wt.dI32 hfn hnt hE (be_wrap (k:=.i32) (.inr (.inr (.inl ⟨.inl rfl,rfl⟩))) x ▸ hc _ w)
theorem u32_succ (n:Nat):IntKind.u32.wrap (1 + IntKind.u32.wrap (n:Int))=(w32 (n + 1):Nat):=by simp [IntKind.wrap,IntKind.bits,IntKind.signed,w32];omega
theorem w32_lt (n:Nat):w32 n < 4294967296:=by simp only [w32];omega
theorem ap_clen (wt:WT P K) {f f2 ntmps:Nat} (hE:Ent P f2) (hc:∀ x w,x < 4294967296->ApC P K.tU8 f2 (.int .u32 (x:Nat)) (uvar x) w) (hfn:FnIs P f ntmps [4] (cACv1 K f2)) (hnt:10<=ntmps) (n:Nat) (w:World):ApC P K.tU8 f (.int .i64 n) (uvar (w32 (n + 1))) w:=
 ap_cv1 wt hfn hnt hE (by rw [u32_succ];exact hc _ w (w32_lt _))
end
structure EvW where
 P:Program
 g:GW
 av:PF->Bool
 nl:Bool
def okValW (av:PF->Bool) (hf:Bool):Ty->Bool
 | .prim p=>av (jv_ p)
 | .str none=>av .str && (!hf || av .cstr)
 | .str (some 0)=>av .nstr && (!hf || av .cnstr)
 | .str (some (_ + 1))=>(av .nstr && (!hf || av .cnstr)) && (av .str && (!hf || av .cstr))
 | .bytes none=>av .bytes && (!hf || av .cbytes)
 | .bytes (some 0)=>av .nbytes && (!hf || av .cnbytes)
 | _=>false
def ptrB (P:Program) (F:Nat):Bool:=match P.underlying F with | some (.pointer _)=>true | _=>false
def xOkW (P:Program) (v:Nat):Ty->List Nat->Bool
 | .prim p,x=>x.length == 0 || (x.length == 1 && p != .uuid)
 | .str (some (_ + 1)),x=>x.length == 4 && x.getD 0 0 != v && ptrB P (x.getD 2 0) && varB P (x.getD 3 0) false 1
 | _,x=>x.length == 0
def zi_ (e:EvW) (hf:Bool) (m k0:Nat) (ty:Ty) (v:Nat) (x:List Nat):Bool:=okValW e.av hf ty && decide (m<=v/\v < k0) && ((x.take 2).all fun t=>decide (m<=t/\t < k0)) && xOkW e.P v ty x
def LeafAt (w:World) (a:Act) (ty:Ty) (v:Nat) (cs:List Value):Prop:=
 if isUuid ty then ∃ p,a.get v=pt p 0/\qw_ w p 0 cs else ∃ y,a.get v=y/\cs=[y]
theorem up_wapp (f v:Nat):Up (q6_ f v):=qi_ _ _
theorem Pv.x1 {v m k0 n:Nat} {a a':Act} (h:Pv v m k0 n a a') (hv:m<=v/\v < k0):Pv 1 m k0 n a a':=⟨h.size,h.defers,fun s hs hs2=>h.get s (by omega) hs2⟩
theorem Pv.g1 {v m k0 n:Nat} {a a':Act} (h:Pv v m k0 n a a') (hv:m<=v/\v < k0) (h1:1 < m):a'.get 1=a.get 1:=h.get 1 (by omega) (.inl h1)
section
variable {P:Program} {g:GW} {av:PF->Bool} {fl nl:Bool} {te:Nat} {cx:Cx} {fx:Bool} {ver:Int} {L B O m k0 n:Nat} {d:Value} {bs:Bs} {K N E:Act->World->Prop} {Q:Exit->Act->World->Prop} {a:Act} {w:World}
theorem s_wleaf (K0:KW P g av fl nl te) {ty:Ty} {v:Nat} {x:List Nat} {cs:List Value} {vv:V} {rest:List GC} (hok:zi_ ⟨P,g,av,nl⟩ cx.hf m k0 ty v x=true) (hw:WC cx fx ver te L B O d bs a w) (hc:CxW cx m k0) (hk:k0<=n) (_hk0:k0<=a.tmps.size)
  (hn:(gL (zh_ g cx ty v x) n).2<=a.tmps.size) (hv:LeafAt w a ty v cs) (hl:LRp w (fun k=>L<=k) ty cs vv) (hlim:bs.length + ((leafPF fx ver ty).wr vv).length<=LIM)
  (h:∀ a' w' d',Pv 1 m k0 n a a'->a'.get 1=d'->Gr L te d w d' (bs++(leafPF fx ver ty).wr vv) w'->LW P rest (gL (zh_ g cx ty v x) n).2 Q a' w') :
  LW P (zh_ g cx ty v x++rest) n Q a w:=by
 simp only [zi_,Bool.and_eq_true,decide_eq_true_eq,List.all_eq_true] at hok
 obtain ⟨⟨⟨hval,hvs⟩,hxs⟩,hx⟩:=hok
 have hle:=hc.le
 have h1m:=hc.one
 have hfx:fx=true->cx.hf=true:=fun h=>by
  cases hh:cx.hf with
  | true=>rfl
  | false=>rw [hw.nf hh] at h;cases h
 have app:∀ (p:PF) (t:Nat) (y:Value) (r:List GC) (n':Nat) (a:Act),av p=true->WC cx fx ver te L B O d bs a w->a.get t=y->t < k0->ValOf p cs y->LRp w (fun k=>L<=k) (pfTy p) cs vv->k0<=n'->n' + 3<=a.tmps.size->bs.length + (p.wr vv).length<=LIM ->
   (∀ a' w' d',Pv 1 m k0 n' a a'->a'.get 1=d'->Gr L te d w d' (bs++p.wr vv) w'->LW P r (n' + 3) Q a' w')->LW P (q6_ (g.ap p) t :: r) n' Q a w:=by
  intro p t y r n' a hav hw hy ht hvo hl' hkn hn' hlim' h'
  exact qc_ (s_wapp (K0.apE p hav) (K0.apC p hav w L cs y vv hl' hvo) hw.s1 hy (by omega) hw.dst hw.Lw hlim' hle hkn (by omega) hn' h')
 have app2:∀ (t:Nat) (p q:PF) (y:Value) (cs:List Value) (vv:V) (n:Nat) (a:Act) (K':Act->World->Prop) (Q:Exit->Act->World->Prop),WC cx fx ver te L B O d bs a w->t < k0->k0<=n->(cx.hf=true->av p=true)->av q=true->a.get t=y->(p ≠ .uuid/\q ≠ .uuid)->cs=[y]->LRp w (fun k=>L<=k) (pfTy p) cs vv->LRp w (fun k=>L<=k) (pfTy q) cs vv ->
   (gwFx cx (q6_ (g.ap p) t) (q6_ (g.ap q) t) n).2<=a.tmps.size->bs.length + ((if fx then p else q).wr vv).length<=LIM ->
   (∀ a' w' d',Pv 1 m k0 n a a'->a'.get 1=d'->Gr L te d w d' (bs++(if fx then p else q).wr vv) w'->K' a' w') ->
   NWP P (gwFx cx (q6_ (g.ap p) t) (q6_ (g.ap q) t) n).1 (Exit.then K' Q) a w:=by
  intro t p q y cs vv n a K' Q hw ht hk hp hq hy hpq hcs hlp hlq hn2 hlim2 h2
  have hn1:n < a.tmps.size:=by
   unfold gwFx at hn2
   split at hn2
   ·have:n + 1 + 3 + 3<=a.tmps.size:=hn2
    omega
   ·have:n + 3<=a.tmps.size:=hn2
    omega
  refine s_wfx (up_wapp _ _) (up_wapp _ _) hw hc hk hn2 hn1 fun a1 n1 hp1 hg1 hlow hn1 hsz=>?_
  have hs1:=hp1.size
  have hv1:a1.get t=y:=by rw [<- hy];exact hlow t (by omega)
  cases fx with
  | true=>
   simp only [if_true] at hsz hlim2 h2 ⊢
   have hsz':n1 + 3<=a.tmps.size:=hsz
   exact s_wapp (K0.apE p (hp (hfx rfl))) (K0.apC p (hp (hfx rfl)) w L cs y vv hlp (by simp only [ValOf,if_neg hpq.1];exact hcs)) hg1 hv1 (by omega) hw.dst hw.Lw hlim2 hle (by omega) (by omega) (by omega) fun a' w' d' hp' h1' hg'=>h2 a' w' d' (hp1.trans (hp'.mono (Nat.le_refl _) hn1)) h1' hg'
  | false=>
   simp only [Bool.false_eq_true,if_false] at hsz hlim2 h2 ⊢
   have hsz':n1 + 3<=a.tmps.size:=hsz
   exact s_wapp (K0.apE q hq) (K0.apC q hq w L cs y vv hlq (by simp only [ValOf,if_neg hpq.2];exact hcs)) hg1 hv1 (by omega) hw.dst hw.Lw hlim2 hle (by omega) (by omega) (by omega) fun a' w' d' hp' h1' hg'=>h2 a' w' d' (hp1.trans (hp'.mono (Nat.le_refl _) hn1)) h1' hg'
 cases ty with
 | prim p=>
  have hpp:pfTy (jv_ p)=.prim p:=by cases p <;> rfl
  have hlp:LRp w (fun k=>L<=k) (pfTy (jv_ p)) cs vv:=by rw [hpp];exact hl
  by_cases hu:p=.uuid
  ·subst hu
   obtain ⟨q,hq,hcs⟩:=hv
   have hav:av .uuid=true:=hval
   have hlen:cs.length=16:=hl.len
   exact qc_ (s_wappU (K0.uuid hav).1 (K0.apE _ hav) (K0.apC _ hav w L cs _ vv hlp rfl) hw.s1 hq hcs hlen (by omega) hw.dst hw.Lw hlim hle hk (by omega) hn h)
  ·have hiu:isUuid (.prim p)=false:=by cases p <;> first | rfl | exact absurd rfl hu
   simp only [LeafAt,hiu,Bool.false_eq_true,if_false] at hv
   obtain ⟨y,hy,hcs⟩:=hv
   have hvo:ValOf (jv_ p) cs y:=by
    have:jv_ p ≠ .uuid:=by cases p <;> first | decide | exact absurd rfl hu
    simp only [ValOf,if_neg this];exact hcs
   have hcode0:zh_ g cx (.prim p) v []=[q6_ (g.ap (jv_ p)) v]:=by cases p <;> first | rfl | exact absurd rfl hu
   have hcode1:∀ t,zh_ g cx (.prim p) v [t]=[jb_ v t,q6_ (g.ap (jv_ p)) t]:=fun t=>by cases p <;> first | rfl | exact absurd rfl hu
   simp only [xOkW,Bool.or_eq_true,Bool.and_eq_true,beq_iff_eq] at hx
   rcases hx with hx | ⟨hx,_⟩
   ·obtain rfl:=List.eq_nil_of_length_eq_zero hx
    rw [hcode0] at hn h ⊢
    exact app _ v y rest n a hval hw hy hvs.2 hvo hlp hk hn hlim h
   ·obtain ⟨t,rfl⟩:=List.length_eq_one_iff.1 hx
    have ht:=hxs t (by simp)
    rw [hcode1] at hn h ⊢
    have hn':n + 1 + 3<=a.tmps.size:=hn
    show LW P (jb_ v t :: (q6_ (g.ap (jv_ p)) t :: rest)) n Q a w
    refine qc_ (s_move (x:=t) (m:=m) (k0:=k0) (.inl rfl) hle hk (by omega) (by omega) fun a1 hp1 hg1=>?_)
    have hp1':=hp1.x1 ht
    have hs1:=hp1.size
    show LW P (q6_ (g.ap (jv_ p)) t :: rest) (n + 1) Q a1 w
    refine app _ t y rest (n + 1) a1 hval (hw.step hc hp1' (by rw [hp1.g1 ht h1m];exact hw.s1) (Gr.refl hw.dst)) (hg1.trans hy) ht.2 hvo hlp (by omega) (by omega) hlim fun a' w' d' hp' h1' hg'=>h a' w' d' (hp1'.trans (hp'.mono (Nat.le_refl _) (by omega))) h1' hg'
 | str nul=>
  obtain ⟨y,hy,hcs⟩:=hv
  cases nul with
  | none=>
   obtain rfl:x=[]:=List.eq_nil_of_length_eq_zero (by simpa [xOkW] using hx)
   simp only [okValW,Bool.and_eq_true,Bool.or_eq_true,Bool.not_eq_true'] at hval
   have e:leafPF fx ver (.str none)=if fx then .cstr else .str:=by cases fx <;> rfl
   rw [e] at hlim h
   exact qc_ (app2 v .cstr .str y cs vv n a _ _ hw hvs.2 hk (fun hf=>by rcases hval.2 with h | h;rw [h] at hf;cases hf;exact h) hval.1 hy ⟨by decide,by decide⟩ hcs hl hl hn hlim h)
  | some q=>
   cases q with
   | zero=>
    obtain rfl:x=[]:=List.eq_nil_of_length_eq_zero (by simpa [xOkW] using hx)
    simp only [okValW,Bool.and_eq_true,Bool.or_eq_true,Bool.not_eq_true'] at hval
    have e:leafPF fx ver (.str (some 0))=if fx then .cnstr else .nstr:=by cases fx <;> rfl
    rw [e] at hlim h
    exact qc_ (app2 v .cnstr .nstr y cs vv n a _ _ hw hvs.2 hk (fun hf=>by rcases hval.2 with h | h;rw [h] at hf;cases hf;exact h) hval.1 hy ⟨by decide,by decide⟩ hcs hl hl hn hlim h)
   | succ q=>
    simp only [xOkW,Bool.and_eq_true,beq_iff_eq,bne_iff_ne,ne_eq] at hx
    obtain ⟨⟨⟨hxl,hxv⟩,hptr⟩,hvar⟩:=hx
    match x,hxl with
    | [b,u,F,tS],_=>
    simp only [List.getD_cons_zero,List.getD_cons_succ] at hxv hptr hvar
    have hb:=hxs b (by simp)
    have hu:=hxs u (by simp)
    obtain ⟨el,hel⟩:∃ el,P.underlying F=some (.pointer el):=by
     unfold ptrB at hptr
     split at hptr
     ·rename_i el h;exact ⟨el,h⟩
     ·cases hptr
    have hvarS:=varB_ok hvar
    simp only [okValW,Bool.and_eq_true,Bool.or_eq_true,Bool.not_eq_true'] at hval
    obtain ⟨⟨v1,v2⟩,v3,v4⟩:=hval
    have hcode:zh_ g cx (.str (some (q + 1))) v [b,u,F,tS]=[gIf 1 2 (fun n=>[mk (some n) (.move (tm cx.ver)),mk (some (n + 1)) (.binOp .lss g.tVer (tm n) (ki .i16 ((q:Int) + 1)) 0)])
      (gS [ji_ b (.string ⟨#[]⟩),gIf 1 2 (fun n=>[mk (some n) (.move (tm v)),mk (some (n + 1)) (.binOp .neq F (tm n) (.const (.pointer none)) 0)])
       (qq_ 3 fun n=>[mk (some n) (.move (tm v)),mk (some (n + 1)) (.nilCheck (tm n)),mk (some (n + 2)) (.load tS (tm (n + 1))),mk (some b) (.assign (tm (n + 2)))]) jq_,
       jb_ b u,gwFx cx (q6_ (g.ap .cstr) u) (q6_ (g.ap .str) u)])
      (gwFx cx (q6_ (g.ap .cnstr) v) (q6_ (g.ap .nstr) v))]:=rfl
    rw [hcode] at hn h ⊢
    have hn2:(gwFx cx (q6_ (g.ap .cnstr) v) (q6_ (g.ap .nstr) v) (gwFx cx (q6_ (g.ap .cstr) u) (q6_ (g.ap .str) u) (n + 2 + 2 + 3 + 1)).2).2<=a.tmps.size:=hn
    have hu1:n + 2 + 2 + 3 + 1<=(gwFx cx (q6_ (g.ap .cstr) u) (q6_ (g.ap .str) u) (n + 2 + 2 + 3 + 1)).2:=up_ite (j3_ (qi_ _ _) (qi_ _ _)) (qi_ _ _) _
    have hu2:(gwFx cx (q6_ (g.ap .cstr) u) (q6_ (g.ap .str) u) (n + 2 + 2 + 3 + 1)).2<=(gwFx cx (q6_ (g.ap .cnstr) v) (q6_ (g.ap .nstr) v) (gwFx cx (q6_ (g.ap .cstr) u) (q6_ (g.ap .str) u) (n + 2 + 2 + 3 + 1)).2).2:=up_ite (j3_ (qi_ _ _) (qi_ _ _)) (qi_ _ _) _
    refine qc_ ?_
    by_cases hlt:ver < (q:Int) + 1
    ·-- a text,or none as an empty one
     have e:leafPF fx ver (.str (some (q + 1)))=if fx then .cstr else .str:=by
      have:nullS (some (q + 1)) ver=false:=by simp [nullS];omega
      simp only [leafPF,this]
      cases fx <;> rfl
     rw [e] at hlim h
     refine s_ifT (qd_ ?_)
     rw [qb_,hw.sv]
     refine q5_ (b:=true) (q:=(q:Int) + 1) (p:=ver) (k:=.i16) (by rw [qb_,gpe (by omega)]) rfl (.inr (.inr (.inl ⟨rfl,by simp;omega⟩))) (wpList_nil ⟨by rw [qb_,gpe (by simp only [qa_];omega)],q4_ (qc_ (qj_ (qg_ (wpList_nil ?_))))⟩)
     have hp1:Pv 1 m k0 n a ((((a.put (some n) (.int .i16 ver)).put (some (n + 1)) (.bool true)).put (some b) (.string ⟨#[]⟩))):=(((Pv.refl _ _ _ _ _).put _ (by omega)).put _ (by omega)).put _ (by omega)
     have hgv:((((a.put (some n) (.int .i16 ver)).put (some (n + 1)) (.bool true)).put (some b) (.string ⟨#[]⟩))).get v=y:=by
      rw [gpo (by omega),gpo (by omega),gpo (by omega)];exact hy
     have hgb:((((a.put (some n) (.int .i16 ver)).put (some (n + 1)) (.bool true)).put (some b) (.string ⟨#[]⟩))).get b=.string ⟨#[]⟩:=gpe (by simp only [qa_];omega)
     show LW P _ (n + 2) _ (((a.put (some n) (.int .i16 ver)).put (some (n + 1)) (.bool true)).put (some b) (.string ⟨#[]⟩)) w
     have hg1:((((a.put (some n) (.int .i16 ver)).put (some (n + 1)) (.bool true)).put (some b) (.string ⟨#[]⟩))).get 1=d:=by
      rw [gpo (by omega),gpo (by omega),gpo (by omega)];exact hw.s1
     generalize (((a.put (some n) (.int .i16 ver)).put (some (n + 1)) (.bool true)).put (some b) (.string ⟨#[]⟩))=a1 at hp1 hgv hgb hg1
     have hs1:=hp1.size
     have fin:∀ (a3:Act) (l:Bs),Pv 1 m k0 n a a3->a3.get 1=d->a3.get b=.string ⟨l.toArray⟩->l=vv.octets->l.length<=maxLen->∀ Q',(∀ a' w' d',Pv 1 m k0 n a a'->a'.get 1=d'->Gr L te d w d' (bs++(if fx then PF.cstr else PF.str).wr vv) w'->Q' .normal a' w')->LW P [jb_ b u,gwFx cx (q6_ (g.ap .cstr) u) (q6_ (g.ap .str) u)] (n + 2 + 2 + 3) Q' a3 w:=by
      intro a3 l hp3 hd3 hg3 hlv hlm Q' hQ
      have hs3:=hp3.size
      refine qc_ (s_move (x:=u) (m:=m) (k0:=k0) (.inl rfl) hle (by omega) (by omega) (by omega) fun a4 hp4 hg4=>?_)
      have hp4':=hp4.x1 hu
      have hs4:=hp4.size
      have hp04:Pv 1 m k0 n a a4:=hp3.trans (hp4'.mono (Nat.le_refl _) (by omega))
      have hw4:WC cx fx ver te L B O d bs a4 w:=hw.step hc hp04 (by rw [hp4.g1 hu h1m];exact hd3) (Gr.refl hw.dst)
      have hwr:∀ p:PF,(p=.cstr \/ p=.str)->p.wr (.s l)=p.wr vv:=by
       rintro p (rfl | rfl) <;> simp only [PF.wr,V.octets,hlv]
      have hwr2:(if fx then PF.cstr else PF.str).wr (.s l)=(if fx then PF.cstr else PF.str).wr vv:=hwr _ (by cases fx <;> simp)
      refine qc_ (app2 u .cstr .str (.string ⟨l.toArray⟩) [.string ⟨l.toArray⟩] (.s l) (n + 2 + 2 + 3 + 1) a4 _ _ hw4 hu.2 (by omega) (fun hf=>by rcases v4 with h | h;rw [h] at hf;cases hf;exact h) v3 (by rw [hg4,hg3]) ⟨by decide,by decide⟩ rfl ⟨l,rfl,rfl,hlm⟩ ⟨l,rfl,rfl,hlm⟩ (by rw [hs4,hs3];omega) (by rw [hwr2];exact hlim) fun a' w' d' hp' h1' hg'=>ja_ (hQ a' w' d' (hp04.trans (hp'.mono (Nat.le_refl _) (by omega))) h1' (by rw [<- hwr2];exact hg')))
     rcases hl with ⟨hl1,rfl⟩ | ⟨l,p,o,hl1,_,hl3,rfl,hl5⟩
     ·rw [hl1] at hcs
      obtain rfl:Value.pointer none=y:=by simpa using hcs
      refine qc_ (s_ifF (qd_ (wl_ptrNe (m:=none) hel (by rw [qb_,gpe (by omega),qb_];exact hgv) (wpList_nil ⟨by rw [qb_,gpe (by simp only [qa_];omega)];rfl,.skip ?_⟩))))
      exact fin _ [] ((hp1.put _ (by omega)).put _ (by omega)) (by rw [gpo (by omega),gpo (by omega)];exact hg1) (by rw [gpo (by omega),gpo (by omega)];exact hgb) rfl (by simp) _ fun a' w' d' hp' h1' hg'=>h a' w' d' hp' h1' hg'
     ·rw [hl1] at hcs
      obtain rfl:Value.pointer (some ⟨p,o,none⟩)=y:=by simpa using hcs
      refine qc_ (s_ifT (qd_ (wl_ptrNe (m:=some ⟨p,o,none⟩) hel (by rw [qb_,gpe (by omega),qb_];exact hgv) (wpList_nil ⟨by rw [qb_,gpe (by simp only [qa_];omega)];rfl,qj_ (qd_ ?_)⟩))))
      simp only [qb_]
      rw [gpo (by omega),gpo (by omega),hgv]
      refine qo_ (p:=⟨p,o,none⟩) (by rw [qb_,gpe (by simp only [qa_];omega)]) (q1_ (p:=⟨p,o,none⟩) (v:=.string ⟨l.toArray⟩) (by rw [qb_,gpe (by simp only [qa_];omega)]) (hvarS.agg w) hl3 (qg_ (wpList_nil ?_)))
      rw [qb_,gpe (by simp only [qa_];omega)]
      exact fin _ l ((((((hp1.put _ (by omega)).put _ (by omega)).put _ (by omega)).put _ (by omega)).put _ (by omega)).put _ (by omega)) (by rw [gpo (by omega),gpo (by omega),gpo (by omega),gpo (by omega),gpo (by omega),gpo (by omega)];exact hg1) (gpe (by simp only [qa_];omega)) rfl hl5 _ fun a' w' d' hp' h1' hg'=>h a' w' d' hp' h1' hg'
    ·-- a text that may be null
     have e:leafPF fx ver (.str (some (q + 1)))=if fx then .cnstr else .nstr:=by
      have:nullS (some (q + 1)) ver=true:=by simp [nullS];omega
      simp only [leafPF,this]
      cases fx <;> rfl
     rw [e] at hlim h
     refine s_ifF (qd_ ?_)
     rw [qb_,hw.sv]
     refine q5_ (b:=false) (q:=(q:Int) + 1) (p:=ver) (k:=.i16) (by rw [qb_,gpe (by omega)]) rfl (.inr (.inr (.inl ⟨rfl,by simp;omega⟩))) (wpList_nil ⟨by rw [qb_,gpe (by simp only [qa_];omega)],?_⟩)
     have hp1:Pv 1 m k0 n a ((a.put (some n) (.int .i16 ver)).put (some (n + 1)) (.bool false)):=((Pv.refl _ _ _ _ _).put _ (by omega)).put _ (by omega)
     have hw1:WC cx fx ver te L B O d bs ((a.put (some n) (.int .i16 ver)).put (some (n + 1)) (.bool false)) w:=hw.step hc hp1 (by rw [gpo (by omega),gpo (by omega)];exact hw.s1) (Gr.refl hw.dst)
     refine app2 v .cnstr .nstr y cs vv _ _ _ _ hw1 hvs.2 ?_ (fun hf=>by rcases v2 with h | h;rw [h] at hf;cases hf;exact h) v1 (by rw [gpo (by omega),gpo (by omega)];exact hy) ⟨by decide,by decide⟩ hcs hl hl (by simp only [qa_];exact hn2) hlim fun a' w' d' hp' h1' hg'=>h a' w' d' (hp1.trans (hp'.mono (Nat.le_refl _) ?_)) h1' hg'
     ·show k0<=(gwFx cx (q6_ (g.ap .cstr) u) (q6_ (g.ap .str) u) (n + 2 + 2 + 3 + 1)).2
      omega
     ·show n<=(gwFx cx (q6_ (g.ap .cstr) u) (q6_ (g.ap .str) u) (n + 2 + 2 + 3 + 1)).2
      omega
 | bytes nul=>
  obtain ⟨y,hy,hcs⟩:=hv
  obtain rfl:x=[]:=List.eq_nil_of_length_eq_zero (by simpa [xOkW] using hx)
  cases nul with
  | none=>
   simp only [okValW,Bool.and_eq_true,Bool.or_eq_true,Bool.not_eq_true'] at hval
   have e:leafPF fx ver (.bytes none)=if fx then .cbytes else .bytes:=by cases fx <;> rfl
   rw [e] at hlim h
   exact qc_ (app2 v .cbytes .bytes y cs vv n a _ _ hw hvs.2 hk (fun hf=>by rcases hval.2 with h | h;rw [h] at hf;cases hf;exact h) hval.1 hy ⟨by decide,by decide⟩ hcs hl hl hn hlim h)
  | some q=>
   cases q with
   | zero=>
    simp only [okValW,Bool.and_eq_true,Bool.or_eq_true,Bool.not_eq_true'] at hval
    have e:leafPF fx ver (.bytes (some 0))=if fx then .cnbytes else .nbytes:=by cases fx <;> rfl
    rw [e] at hlim h
    exact qc_ (app2 v .cnbytes .nbytes y cs vv n a _ _ hw hvs.2 hk (fun hf=>by rcases hval.2 with h | h;rw [h] at hf;cases hf;exact h) hval.1 hy ⟨by decide,by decide⟩ hcs hl hl hn hlim h)
   | succ q=>cases hval
 | list _ _ _=>cases hval
 | struct _ _ _=>cases hval
end
section
variable {P:Program} {g:GW} {av:PF->Bool} {fl nl:Bool} {te:Nat} {cx:Cx} {fx:Bool} {ver:Int} {L B O m k0 n:Nat} {d:Value} {bs:Bs} {K N E:Act->World->Prop} {Q:Exit->Act->World->Prop} {a:Act} {w:World}
theorem cellsAt_row {w:World} {b F:Nat} {cs:List Value} (hb:w.heap[b]?=some (.cells cs.toArray F (0,0))):qw_ w b 0 cs:=by
 intro j c hj
 rw [Nat.zero_add]
 simp [World.cell?,hb,hj]
theorem wl_boxU {F n v:Nat} {cs:List Value} {ops:Array Oper} {QQ:Exit->Act->World->Prop} (hV:j6_ P F true 16) (hz:∀ w,(zeroValue F).run P w=.ok (.agg (Array.replicate 16 (.int .u8 0))) w) (hl:cs.length=16) (h1:∀ u ∈ cs,u.oneCell'=true) (hn:a.get n=.agg cs.toArray) (hnv:n ≠ v) (hvs:v < a.tmps.size)
  (h:∀ w',Keeps (fun _=>False) w w'->qw_ w' w.heap.size 0 cs->wpList P ops QQ [] (a.put (some v) (pt w.heap.size 0)) w') :
  wpList P ops QQ [mk (some v) (.alloc F),mk none (.store F (tm v) (tm n))] a w:=by
 refine wl_alloc (hz w) ?_
 let Z:Obj:=.cells (Value.agg (Array.replicate 16 (.int .u8 0))).cells F (0,0)
 have hb:(w.alloc Z).heap[w.heap.size]?=some Z:=q2_ w Z
 have hzs:(Value.agg (Array.replicate 16 (.int .u8 0))).cells.size=16:=by simp [Value.cells]
 refine q3_ (g:=w.heap.size) (o:=0) (cur:=(Value.agg (Array.replicate 16 (.int .u8 0))).cells) (t:=F) (v:=.agg cs.toArray) (vs:=cs) (by rw [qb_,zf_ _ _ _ hvs]) (by rw [qb_,get_put_ne _ _ _ _ hnv];exact hn) rfl (by rw [hl];exact hV.size _) hb (by rw [hl];omega) h1 ?_
 rw [splice_whole (by rw [hl];exact hzs.symm)]
 have hk:Keeps (fun k=>w.heap.size<=k) w ((w.alloc Z).setRow w.heap.size cs.toArray):=(Keeps.alloc _ _ _).trans (Keeps.setRow (fun k=>w.heap.size<=k) _ _ _ (Nat.le_refl _))
 refine h _ (hk.mono fun k hk hX=>by omega) ?_
 have hb2:=setRow_heap _ _ _ cs.toArray _ _ hb
 exact cellsAt_row hb2
theorem cells_one {X:Nat->Prop} {cs:List Value} {v:V} (h:LRp w X (.prim .uuid) cs v):cs.length=16/\∀ u ∈ cs,u.oneCell'=true:=by
 obtain ⟨l,hl,rfl,_⟩:=h
 exact ⟨by rw [List.length_map];exact hl,oct_one⟩
theorem s_wget {ty:Ty} {s v T k F off:Nat} {vv:V} (hleaf:ty.leaf=true) (hs:a.get s=pt B O) (hF:FldIs P T k F off ty.agg ty.sz) (hU:isUuid ty=true->j6_ P F true 16/\∀ w,(zeroValue F).run P w=.ok (.agg (Array.replicate 16 (.int .u8 0))) w) {X:Nat->Prop} (_hX:∀ k,¬ X k->k < w.heap.size->True)
  (hr:Rp w X ty B (O + off) vv) (hv:m<=v/\v < k0) (hm:m<=k0) (hk:k0<=n) (hn:n + 4<=a.tmps.size) (h1:1 < m)
  (h:∀ a' w' cs,Pv 1 m k0 n a a'->a'.get 1=a.get 1->Keeps (fun _=>False) w w'->LeafAt w' a' ty v cs->LRp w' X ty cs vv->K a' w'):NWP P (gwGet ty s v T k F n).1 (Exit.then K Q) a w:=by
 have hcs:∃ cs,qw_ w B (O + off) cs/\LRp w X ty cs vv:=by
  cases ty with
  | prim p=>exact hr
  | str q=>exact hr
  | bytes q=>exact hr
  | list _ _ _=>cases hleaf
  | struct _ _ _=>cases hleaf
 obtain ⟨cs,hc,hl⟩:=hcs
 by_cases hu:isUuid ty=true
 ·obtain rfl:ty=.prim .uuid:=by
   cases ty with
   | prim p=>cases p <;> first | rfl | cases hu
   | _=>cases hu
  obtain ⟨hV,hz⟩:=hU rfl
  obtain ⟨hlen,hone⟩:=cells_one hl
  show NWP P (gwLoadU s v T k F n).1 (Exit.then K Q) a w
  refine qj_ (qd_ ?_)
  rw [qb_,hs]
  refine qo_ (by rw [qb_,gpe (by omega)];rfl) ?_
  refine jz_ (by rw [qb_,gpe (by simp only [qa_];omega)]) hF ?_
  refine wl_loadN (b:=B) (o:=O + off) (cs:=cs) (by rw [qb_,gpe (by simp only [qa_];omega)]) (hF.var.agg w) (by rw [hlen];exact hF.var.size w) hc ?_
  refine wl_boxU hV hz hlen hone (gpe (by simp only [qa_];omega)) (by omega) (by simp only [qa_];omega) fun w' hk' hc'=>wpList_nil (h _ w' cs ?_ ?_ hk' ?_ (hl.keep (hk'.mono fun _ _ h=>h.elim)))
  ·exact (((((Pv.refl _ _ _ _ _).put _ (by omega)).put _ (by omega)).put _ (by omega)).put _ (by omega)).put _ (by omega)
  ·rw [gpo (by omega),gpo (by omega),gpo (by omega),gpo (by omega),gpo (by omega)]
  ·exact ⟨w.heap.size,gpe (by simp only [qa_];omega),hc'⟩
 ·have hu':isUuid ty=false:=by simpa using hu
  have hone:∃ y,cs=[y]:=by
   have hlen:=hl.len
   have:ty.sz=1:=by
    cases ty with
    | prim p=>cases p <;> first | rfl | exact absurd rfl hu
    | str _=>rfl
    | bytes _=>rfl
    | list _ _ _=>rfl
    | struct _ _ _=>cases hleaf
   rw [this] at hlen
   exact List.length_eq_one_iff.1 hlen
  obtain ⟨y,rfl⟩:=hone
  have hagg:ty.agg=false/\ty.sz=1:=by
   cases ty with
   | prim p=>cases p <;> first | exact ⟨rfl,rfl⟩ | exact absurd rfl hu
   | str _=>exact ⟨rfl,rfl⟩
   | bytes _=>exact ⟨rfl,rfl⟩
   | list _ _ _=>cases hleaf
   | struct _ _ _=>cases hleaf
  rw [hagg.1,hagg.2] at hF
  unfold gwGet
  rw [hu']
  simp only [Bool.false_eq_true,if_false]
  refine s_load (x:=v) (m:=m) (k0:=k0) hs hF (hc 0 y rfl) (.inl rfl) hm hk hn (by omega) fun a' hp hg=>h a' w [y] (hp.x1 hv) (hp.g1 hv h1) (Keeps.refl _ _) ?_ hl
  simp only [LeafAt,hu',Bool.false_eq_true,if_false]
  exact ⟨y,hg,rfl⟩
theorem s_widx {ty:Ty} {v i e F E' p q cnt c j:Nat} {vv:V} (hleaf:ty.leaf=true) (hy:a.get v=.slice (some ⟨p,q,none⟩) cnt c) (hi:a.get i=.int .i64 j) (hj:j < cnt) (hF:P.underlying F=some (.slice E')) (hE:j6_ P E' ty.agg ty.sz) (hU:isUuid ty=true->j6_ P E' true 16/\∀ w,(zeroValue E').run P w=.ok (.agg (Array.replicate 16 (.int .u8 0))) w) {X:Nat->Prop}
  (hr:Rp w X ty p (q + j * ty.sz) vv) (hv:m<=e/\e < k0) (_hvn:v < n) (hin:i < n) (_hm:m<=k0) (hk:k0<=n) (hn:n + 4<=a.tmps.size) (h1:1 < m)
  (h:∀ a' w' cs,Pv 1 m k0 n a a'->a'.get 1=a.get 1->Keeps (fun _=>False) w w'->LeafAt w' a' ty e cs->LRp w' X ty cs vv->K a' w'):NWP P (gwIdxG ty v i e F E' n).1 (Exit.then K Q) a w:=by
 have hcs:∃ cs,qw_ w p (q + j * ty.sz) cs/\LRp w X ty cs vv:=by
  cases ty with
  | prim p=>exact hr
  | str q=>exact hr
  | bytes q=>exact hr
  | list _ _ _=>cases hleaf
  | struct _ _ _=>cases hleaf
 obtain ⟨cs,hc,hl⟩:=hcs
 by_cases hu:isUuid ty=true
 ·obtain rfl:ty=.prim .uuid:=by
   cases ty with
   | prim p=>cases p <;> first | rfl | cases hu
   | _=>cases hu
  obtain ⟨hV,hz⟩:=hU rfl
  obtain ⟨hlen,hone⟩:=cells_one hl
  show NWP P (gwIdxU v i e F E' n).1 (Exit.then K Q) a w
  refine qj_ (qd_ (qd_ ?_))
  rw [qb_,hy,qb_,gpo (by omega),hi]
  refine jk_ (b:=p) (o:=q) (n:=cnt) (c:=c) (i:=j) (k:=.i64) (by rw [qb_,gpo (by omega),gpe (by omega)]) (by rw [qb_,gpe (by simp only [qa_];omega)]) hj hF (hE.size w) ?_
  refine wl_loadN (b:=p) (o:=q + j * Ty.sz (.prim .uuid)) (cs:=cs) (by rw [qb_,gpe (by simp only [qa_];omega)]) (hE.agg w) (by rw [hlen];exact hE.size w) hc ?_
  refine wl_boxU hV hz hlen hone (gpe (by simp only [qa_];omega)) (by omega) (by simp only [qa_];omega) fun w' hk' hc'=>wpList_nil (h _ w' cs ?_ ?_ hk' ?_ (hl.keep (hk'.mono fun _ _ h=>h.elim)))
  ·exact (((((Pv.refl _ _ _ _ _).put _ (by omega)).put _ (by omega)).put _ (by omega)).put _ (by omega)).put _ (by omega)
  ·rw [gpo (by omega),gpo (by omega),gpo (by omega),gpo (by omega),gpo (by omega)]
  ·exact ⟨w.heap.size,gpe (by simp only [qa_];omega),hc'⟩
 ·have hu':isUuid ty=false:=by simpa using hu
  have hagg:ty.agg=false/\ty.sz=1:=by
   cases ty with
   | prim p=>cases p <;> first | exact ⟨rfl,rfl⟩ | exact absurd rfl hu
   | str _=>exact ⟨rfl,rfl⟩
   | bytes _=>exact ⟨rfl,rfl⟩
   | list _ _ _=>cases hleaf
   | struct _ _ _=>cases hleaf
  have hone:∃ y,cs=[y]:=by
   have hlen:=hl.len
   rw [hagg.2] at hlen
   exact List.length_eq_one_iff.1 hlen
  obtain ⟨y,rfl⟩:=hone
  rw [hagg.1,hagg.2] at hE
  unfold gwIdxG
  rw [hu']
  simp only [Bool.false_eq_true,if_false]
  refine qj_ (qd_ (qd_ ?_))
  rw [qb_,hy,qb_,gpo (by omega),hi]
  refine jk_ (b:=p) (o:=q) (n:=cnt) (c:=c) (i:=j) (k:=.i64) (by rw [qb_,gpo (by omega),gpe (by omega)]) (by rw [qb_,gpe (by simp only [qa_];omega)]) hj hF (hE.size w) ?_
  refine q1_ (v:=y) (by rw [qb_,gpe (by simp only [qa_];omega)]) (hE.agg w) (by have:=hc 0 y rfl;rw [hagg.2] at this;exact this) ?_
  refine qg_ (wpList_nil (h _ w [y] ?_ ?_ (Keeps.refl _ _) ?_ hl))
  ·exact (((((Pv.refl _ _ _ _ _).put _ (by omega)).put _ (by omega)).put _ (by omega)).put _ (by omega)).put _ (by omega)
  ·rw [gpo (by omega),gpo (by omega),gpo (by omega),gpo (by omega),gpo (by omega)]
  ·simp only [LeafAt,hu',Bool.false_eq_true,if_false]
   exact ⟨y,by rw [gpe (by simp only [qa_];omega),qb_,gpe (by simp only [qa_];omega)],rfl⟩
theorem s_widxAddr {v i e F E' p q cnt c j sz:Nat} (hy:a.get v=.slice (some ⟨p,q,none⟩) cnt c) (hi:a.get i=.int .i64 j) (hj:j < cnt) (hF:P.underlying F=some (.slice E')) (hE:∀ w,(sizeOf E').run P w=.ok sz w)
  (hv:m<=e/\e < k0) (_hvn:v < n) (hin:i < n) (_hm:m<=k0) (hk:k0<=n) (hn:n + 3<=a.tmps.size) (h1:1 < m)
  (h:∀ a',Pv 1 m k0 n a a'->a'.get 1=a.get 1->a'.get e=pt p (q + j * sz)->K a' w):NWP P (zd_ v i e F n).1 (Exit.then K Q) a w:=by
 refine qj_ (qd_ (qd_ ?_))
 rw [qb_,hy,qb_,gpo (by omega),hi]
 refine jk_ (b:=p) (o:=q) (n:=cnt) (c:=c) (i:=j) (k:=.i64) (by rw [qb_,gpo (by omega),gpe (by omega)]) (by rw [qb_,gpe (by simp only [qa_];omega)]) hj hF (hE w) ?_
 refine qg_ (wpList_nil (h _ ?_ ?_ ?_))
 ·exact ((((Pv.refl _ _ _ _ _).put _ (by omega)).put _ (by omega)).put _ (by omega)).put _ (by omega)
 ·rw [gpo (by omega),gpo (by omega),gpo (by omega),gpo (by omega)]
 ·rw [gpe (by simp only [qa_];omega),qb_,gpe (by simp only [qa_];omega)];rfl
theorem s_wbyte (K0:KW P g av fl nl te) {c:Nat} (hc:c < 256) (h1:a.get 1=d) (hd:ju_ w L te d bs) (hL:L<=w.heap.size) (hlim:bs.length + 1<=LIM) (hm:m<=k0) (hk:k0<=n) (h1m:1 < n) (hn:n + 3<=a.tmps.size)
  (h:∀ a' w' d',Pv 1 m k0 n a a'->a'.get 1=d'->Gr L te d w d' (bs++[UInt8.ofNat c]) w'->K a' w'):NWP P (gwByte g c n).1 (Exit.then K Q) a w:=by
 refine qj_ (qd_ ?_)
 rw [qb_,h1]
 have ho:octv (UInt8.ofNat c)=.int .u8 (c:Int):=by simp [octv];omega
 refine wl_buildSlice (l:=[UInt8.ofNat c]) K0.oct ?_ (by simp) (by simp) ?_
 ·simp only [List.map_cons,List.map_nil,ho,prs]
  rfl
 have hk':Keeps (fun _=>False) w (w.alloc (.cells ([UInt8.ofNat c].map octv).toArray te (0,0))):=Keeps.alloc _ _ _
 have hoct:OctAt (w.alloc (.cells ([UInt8.ofNat c].map octv).toArray te (0,0))) w.heap.size 0 [UInt8.ofNat c]:=by
  intro j b hj
  have:=q2_ w (.cells ([UInt8.ofNat c].map octv).toArray te (0,0))
  simp only [World.cell?,this,Nat.zero_add,List.getElem?_toArray,List.getElem?_map,hj]
  rfl
 refine wl_appendDst K0.oct (d:=d) (L:=L) (bs:=bs) (l:=[UInt8.ofNat c]) ?_ (x:=.slice (some ⟨w.heap.size,0,none⟩) 1 1) ?_ (hd.keep hk' fun _ _ h=>h) (src_oct K0.oct hoct) (by have:=hk'.size;omega) hlim fun d' w' hg=>?_
 ·rw [qb_,gpo (by omega),gpe (by omega)]
 ·rw [qb_,gpe (by rw [qa_];omega)]
  rfl
 refine qg_ (wpList_nil (h _ w' d' ?_ ?_ (Gr.pre hk' (fun _ _ h=>h) hg)))
 ·exact ((((Pv.refl _ _ _ _ _).put _ (by omega)).put _ (by omega)).put _ (by omega)).put _ (.inl rfl)
 ·rw [gpe (by simp only [qa_];omega),qb_,gpe (by simp only [qa_];omega)]
end
section
variable {P:Program} {K:Kn}
theorem wl_lenAny {ops:Array Oper} {Q:Exit->Act->World->Prop} {r:List Oper} {a:Act} {w:World} {d:Option Nat} {y:Operand} {T ty n:Nat} (h1:(execOp a.eval (bi d .len [y] [T] ty)).run P w=.ok (.value (.int .i64 n)) w)
  (h:wpList P ops Q r (a.put d (.int .i64 n)) w):wpList P ops Q (bi d .len [y] [T] ty :: r) a w:=by
 refine wpList_plain rfl fun _ hK=>?_
 unfold Oper.wp
 rw [h1]
 exact hK _ _ h
structure TxtV (P:Program) (tX:Nat) (x:Value) (l:Bs) (L:Nat) (w:World):Prop where
 len:∀ (a:Act) (w:World) (d:Option Nat) (y:Operand) (ty:Nat),a.eval y=x->(execOp a.eval (bi d .len [y] [tX] ty)).run P w=.ok (.value (.int .i64 l.length)) w
 src:∀ w',Keeps (fun k=>L<=k) w w'->Src P 1 tX x l.length (l.map octv) w'
theorem txt_str {tX:Nat} (hT:P.underlying tX=some .string) (l:Bs) (L:Nat) (w:World):TxtV P tX (.string ⟨l.toArray⟩) l L w:=
 ⟨fun a w d y ty hy=>by
  have hsz:ByteArray.size ⟨l.toArray⟩=l.length:=List.size_toArray
  simp [execOp,bi,resolve,invoke,hy,builtin,Builtin.len_,run_underlying hT,goInt,hsz],fun w' _=>src_str hT w' l⟩
theorem ap_rest (wt:WT P K) {tX:Nat} {x:Value} {l bs:Bs} {L n:Nat} {d:Value} {N E:Act->World->Prop} {a:Act} {w:World} (hx:Src P 1 tX x l.length (l.map octv) w) (h0:a.get 0=d) (h1:a.get 1=x) (hn:4 < n) (hs:n + 3<=a.tmps.size) (hd:ju_ w L K.tU8 d bs) (hL:L<=w.heap.size)
  (hlim:bs.length + l.length<=LIM) (h:∀ a' w' d',a'.defers=a.defers->a'.get 4=d'->Gr L K.tU8 d w d' (bs++l) w'->E a' w'):LW P (gApRest K tX) n (Rt N E) a w:=by
 refine qc_ (qj_ (qd_ (qd_ ?_)))
 refine wl_appendDst wt.oct (d:=d) (x:=x) ?_ ?_ hd hx hL hlim fun d' w' hg=>?_
 ·rw [qb_,gpo (by omega),gpe (by omega)];exact h0
 ·rw [qb_,gpe (by simp only [qa_];omega),qb_,gpo (by omega)];exact h1
 refine qg_ (wpList_nil (qc_ (.ret ?_)))
 exact h _ w' d' (by simp only [qe_]) (by rw [gpe (by simp only [qa_];omega),qb_,gpe (by simp only [qa_];omega)]) hg
theorem ap_txt (wt:WT P K) {f f2 ntmps tX tI L:Nat} {kI:IntKind} {x:Value} {l enc:Bs} {w:World} (hI:P.underlying tI=some (.int kI)) (hx:TxtV P tX x l L w) (hE:Ent P f2) (hc:ApC P K.tU8 f2 (.int kI (kI.wrap l.length)) enc w) (hfn:FnIs P f ntmps [4] (cAStr K tX tI f2)) (hnt:13<=ntmps) :
  ApL P K.tU8 f x (enc++l) w L:=by
 intro d bs hd hL hlim
 rw [List.length_append] at hlim
 refine calls2s wt.mixed hfn (by omega) fun a h0 h1 hs hdf=>?_
 refine qc_ (qj_ (qd_ (qd_ ?_)))
 refine wl_lenAny (hx.len _ _ _ _ _ (by rw [qb_,gpe (by simp only [qa_];omega),qb_,gpo (by omega)];exact h1)) ?_
 refine qu_ (k:=.i64) (k':=kI) (m:=l.length) (by rw [qb_,gpe (by simp only [qa_];omega)]) wt.dInt hI ?_
 refine wl_callSet hE ?_ (hc L) hd hL (by omega) (by simp only [qa_];omega) fun w1 d1 hg=>wpList_nil ?_
 ·simp only [List.map_cons,List.map_nil,qb_]
  rw [gpo (by omega),gpo (by omega),gpo (by omega),gpe (by omega),gpe (by simp only [qa_];omega),h0]
 refine ap_rest wt (x:=x) (l:=l) (d:=d1) (hx.src w1 (Gr.far hd hg)) ?_ ?_ (by show 4 < 5 + 5;omega) (by simp only [qa_];show 5 + 5 + 3<=_;omega) hg.dst (Nat.le_trans hL hg.keeps.size) (by rw [List.length_append];omega) fun a' w' d' hd' h4 hg'=>⟨?_,gr_ret h4 ?_⟩
 ·rw [gpe (by simp only [qa_];omega)]
 ·rw [gpo (by omega),gpo (by omega),gpo (by omega),gpo (by omega),gpo (by omega),gpo (by omega)];exact h1
 ·rw [hd'];simp only [qe_];exact hdf
 ·rw [<- List.append_assoc];exact hg.trans hg'
theorem ap_ctxt (wt:WT P K) {f f2 ntmps tX L:Nat} {x:Value} {l:Bs} {w:World} (hx:TxtV P tX x l L w) (hE:Ent P f2) (hc:∀ x w,x < 4294967296->ApC P K.tU8 f2 (.int .u32 (x:Nat)) (uvar x) w) (hfn:FnIs P f ntmps [4] (cACStr K tX f2)) (hnt:14<=ntmps) :
  ApL P K.tU8 f x (uvar (w32 (l.length + 1))++l) w L:=by
 intro d bs hd hL hlim
 rw [List.length_append] at hlim
 refine calls2s wt.mixed hfn (by omega) fun a h0 h1 hs hdf=>?_
 refine qc_ (qj_ (qd_ (qd_ ?_)))
 refine wl_lenAny (hx.len _ _ _ _ _ (by rw [qb_,gpe (by simp only [qa_];omega),qb_,gpo (by omega)];exact h1)) ?_
 refine qu_ (k:=.i64) (k':=.u32) (m:=l.length) (by rw [qb_,gpe (by simp only [qa_];omega)]) wt.dInt wt.dU32 ?_
 refine j9_ (k:=.u32) (m:=1) (n:=IntKind.u32.wrap l.length) rfl (by rw [qb_,gpe (by simp only [qa_];omega)]) (by simp) (run_add w) ?_
 rw [u32_succ]
 refine wl_callSet hE ?_ (hc (w32 (l.length + 1)) w (w32_lt _) L) hd hL (by omega) (by simp only [qa_];omega) fun w1 d1 hg=>wpList_nil ?_
 ·simp only [List.map_cons,List.map_nil,qb_]
  rw [gpo (by omega),gpo (by omega),gpo (by omega),gpo (by omega),gpe (by omega),gpe (by simp only [qa_];omega),h0]
 refine ap_rest wt (x:=x) (l:=l) (d:=d1) (hx.src w1 (Gr.far hd hg)) ?_ ?_ (by show 4 < 5 + 6;omega) (by simp only [qa_];show 5 + 6 + 3<=_;omega) hg.dst (Nat.le_trans hL hg.keeps.size) (by rw [List.length_append];omega) fun a' w' d' hd' h4 hg'=>⟨?_,gr_ret h4 ?_⟩
 ·rw [gpe (by simp only [qa_];omega)]
 ·rw [gpo (by omega),gpo (by omega),gpo (by omega),gpo (by omega),gpo (by omega),gpo (by omega),gpo (by omega)];exact h1
 ·rw [hd'];simp only [qe_];exact hdf
 ·rw [<- List.append_assoc];exact hg.trans hg'
end
section
variable {P:Program} {g:GW} {av:PF->Bool} {fl nl:Bool} {te:Nat} {cx:Cx} {fx:Bool} {ver:Int} {L B O m k0 n:Nat} {d:Value} {bs:Bs} {K N E:Act->World->Prop} {Q:Exit->Act->World->Prop} {a:Act} {w:World}
theorem s_wlenA {f v F E' len c:Nat} {base:Option Addr} {enc:Bs} (hE:Ent P f) (hc:ApC P te f (.int .i64 len) enc w) (h1:a.get 1=d) (hv:a.get v=.slice base len c) (hF:P.underlying F=some (.slice E')) (hvn:v < n) (hd:ju_ w L te d bs) (hL:L<=w.heap.size) (hlim:bs.length + enc.length<=LIM) (hm:m<=k0) (hk:k0<=n) (_h1m:1 < n) (hn:n + 4<=a.tmps.size)
  (h:∀ a' w' d',Pv 1 m k0 n a a'->a'.get 1=d'->Gr L te d w d' (bs++enc) w'->K a' w'):NWP P (gwLenA g f v F n).1 (Exit.then K Q) a w:=by
 refine qj_ (qd_ (qd_ (wl_len (base:=base) (n:=len) (c:=c) (by rw [qb_,gpe (by simp only [qa_];omega),qb_,gpo (by omega)];exact hv) hF ?_)))
 refine wl_callSet hE ?_ (hc L) hd hL hlim (by simp only [qa_];omega) fun w' d' hg=>wpList_nil (h _ w' d' ?_ (gpe (by simp only [qa_];omega)) hg)
 ·simp only [List.map_cons,List.map_nil,qb_]
  rw [gpo (by omega),gpo (by omega),gpe (by omega),gpe (by simp only [qa_];omega),h1]
 ·exact (((((Pv.refl _ _ _ _ _).put _ (by omega)).put _ (by omega)).put _ (by omega)).put _ (by omega)).put _ (.inl rfl)
theorem s_wlenN {f v F E' len c:Nat} {base:Option Addr} {enc:Bs} (hE:Ent P f) (hc:Calls P f #[d,.int .i64 len,.bool base.isNone] w fun e w'=>∃ d',e=.returned d'/\Gr L te d w d' (bs++enc) w') (h1:a.get 1=d) (hv:a.get v=.slice base len c) (hF:P.underlying F=some (.slice E')) (hvn:v < n) (hm:m<=k0) (hk:k0<=n) (_h1m:1 < n) (hn:n + 6<=a.tmps.size)
  (h:∀ a' w' d',Pv 1 m k0 n a a'->a'.get 1=d'->Gr L te d w d' (bs++enc) w'->K a' w'):NWP P (gwLenN g f v F n).1 (Exit.then K Q) a w:=by
 refine qj_ (qd_ (qd_ (wl_len (base:=base) (n:=len) (c:=c) (by rw [qb_,gpe (by simp only [qa_];omega),qb_,gpo (by omega)];exact hv) hF (qd_ ?_))))
 refine wl_slNil (m:=base) (n:=len) (c:=c) hF (by rw [qb_,gpe (by simp only [qa_];omega),qb_,gpo (by omega),gpo (by omega),gpo (by omega)];exact hv) ?_
 refine qs_ (vs:=#[d,.int .i64 len,.bool base.isNone]) hE ?_ hc fun e w' hR=>?_
 ·simp only [List.map_cons,List.map_nil,qb_]
  rw [gpo (by omega),gpo (by omega),gpo (by omega),gpo (by omega),gpe (by omega),gpo (by omega),gpo (by omega),gpe (by simp only [qa_];omega),gpe (by simp only [qa_];omega),h1]
 obtain ⟨d',he,hg⟩:=hR
 refine ⟨d',he,qg_ (wpList_nil (h _ w' d' ?_ ?_ hg))⟩
 ·exact (((((((Pv.refl _ _ _ _ _).put _ (by omega)).put _ (by omega)).put _ (by omega)).put _ (by omega)).put _ (by omega)).put _ (by omega)).put _ (.inl rfl)
 ·rw [gpe (by simp only [qa_];omega),qb_,gpe (by simp only [qa_];omega)]
theorem s_wlen (K0:KW P g av fl nl te) {nul:Option Nat} {v F E' len c:Nat} {base:Option Addr} (hnl:nul.isSome=true->nl=true) (hhl:nul.isSome=false->hasLstW g cx.hf=true) (hfl:cx.hf=true->fl=true) (hw:WC cx fx ver te L B O d bs a w) (hc:CxW cx m k0) (hv:a.get v=.slice base len c) (hF:P.underlying F=some (.slice E')) (hvn:v < k0) (hk:k0<=n) (hn:(gwLen g cx nul v F n).2<=a.tmps.size)
  (hlim:bs.length + (if nul.isSome && base.isNone then wNull fx 4 else wCnt fx len).length<=LIM)
  (h:∀ a' w' d',Pv 1 m k0 n a a'->a'.get 1=d'->Gr L te d w d' (bs++(if nul.isSome && base.isNone then wNull fx 4 else wCnt fx len)) w'->K a' w'):NWP P (gwLen g cx nul v F n).1 (Exit.then K Q) a w:=by
 have hle:=hc.le
 have h1m:=hc.one
 have hfx:fx=true->cx.hf=true:=fun h=>by
  cases hh:cx.hf with
  | true=>rfl
  | false=>rw [hw.nf hh] at h;cases h
 cases nul with
 | none=>
  have hhl:=hhl rfl
  simp only [hasLstW,Bool.and_eq_true,Bool.or_eq_true,Bool.not_eq_true'] at hhl
  simp only [Option.isSome_none,Bool.false_and,Bool.false_eq_true,if_false] at hlim h
  have hn2:(gwFx cx (gwLenA g g.calen v F) (gwLenA g g.alen v F) n).2<=a.tmps.size:=hn
  have hn1:n < a.tmps.size:=by
   unfold gwFx at hn2
   split at hn2
   ·have:n + 1 + 4 + 4<=a.tmps.size:=hn2
    omega
   ·have:n + 4<=a.tmps.size:=hn2
    omega
  refine s_wfx (qi_ _ _) (qi_ _ _) hw hc hk hn2 hn1 fun a1 n1 hp1 hg1 hlow hnn hsz=>?_
  have hs1:=hp1.size
  have hv1:a1.get v=.slice base len c:=by rw [hlow v (by omega)];exact hv
  cases fx with
  | true=>
   simp only [if_true] at hsz ⊢
   have hsz':n1 + 4<=a.tmps.size:=hsz
   exact s_wlenA (K0.clE (hfl (hfx rfl)) (hhl.2.resolve_left (by rw [hfx rfl];simp))) (K0.clC (hfl (hfx rfl)) (hhl.2.resolve_left (by rw [hfx rfl];simp)) len w) hg1 hv1 hF (by omega) hw.dst hw.Lw hlim hle (by omega) (by omega) (by omega) fun a' w' d' hp' h1' hg'=>h a' w' d' (hp1.trans (hp'.mono (Nat.le_refl _) hnn)) h1' hg'
  | false=>
   simp only [Bool.false_eq_true,if_false] at hsz ⊢
   have hsz':n1 + 4<=a.tmps.size:=hsz
   exact s_wlenA (K0.alE hhl.1) (K0.alC hhl.1 len w) hg1 hv1 hF (by omega) hw.dst hw.Lw hlim hle (by omega) (by omega) (by omega) fun a' w' d' hp' h1' hg'=>h a' w' d' (hp1.trans (hp'.mono (Nat.le_refl _) hnn)) h1' hg'
 | some q=>
  simp only [Option.isSome_some,Bool.true_and] at hlim h
  have hnl':=hnl rfl
  have hn2:(gwFx cx (gwLenN g g.cnalen v F) (gwLenN g g.nalen v F) n).2<=a.tmps.size:=hn
  have hn1:n < a.tmps.size:=by
   unfold gwFx at hn2
   split at hn2
   ·have:n + 1 + 6 + 6<=a.tmps.size:=hn2
    omega
   ·have:n + 6<=a.tmps.size:=hn2
    omega
  refine s_wfx (qi_ _ _) (qi_ _ _) hw hc hk hn2 hn1 fun a1 n1 hp1 hg1 hlow hnn hsz=>?_
  have hs1:=hp1.size
  have hv1:a1.get v=.slice base len c:=by rw [hlow v (by omega)];exact hv
  cases fx with
  | true=>
   simp only [if_true] at hsz ⊢
   have hsz':n1 + 6<=a.tmps.size:=hsz
   exact s_wlenN (K0.cnE hnl' (hfl (hfx rfl))) (K0.cnC hnl' (hfl (hfx rfl)) len base.isNone w L d bs hw.dst hw.Lw hlim) hg1 hv1 hF (by omega) hle (by omega) (by omega) (by omega) fun a' w' d' hp' h1' hg'=>h a' w' d' (hp1.trans (hp'.mono (Nat.le_refl _) hnn)) h1' hg'
  | false=>
   simp only [Bool.false_eq_true,if_false] at hsz ⊢
   have hsz':n1 + 6<=a.tmps.size:=hsz
   exact s_wlenN (K0.nlE hnl') (K0.nlC hnl' len base.isNone w L d bs hw.dst hw.Lw hlim) hg1 hv1 hF (by omega) hle (by omega) (by omega) (by omega) fun a' w' d' hp' h1' hg'=>h a' w' d' (hp1.trans (hp'.mono (Nat.le_refl _) hnn)) h1' hg'
theorem s_wtags (K0:KW P g av fl nl te) {T kt _off F sz:Nat} {agg:Bool} {t:List (Nat × Bs)} {toff:Option Nat} {rest:List GC} (hfl:cx.hf=true->fl=true) (hw:WC cx fx ver te L B O d bs a w) (hc:CxW cx m k0) (hk:k0<=n) (hn:(gL (qy_ g cx T kt) n).2<=a.tmps.size)
  (htoff:match toff with | some o=>cx.hf=true/\FldIs P T kt F o agg sz | none=>cx.hf=false) (ht:TgAt w (fun k=>L<=k) B O toff t) (hlim:bs.length + (j0_ fx t).length<=LIM)
  (h:∀ a' w' d',Pv 1 m k0 n a a'->a'.get 1=d'->Gr L te d w d' (bs++j0_ fx t) w'->LW P rest (gL (qy_ g cx T kt) n).2 Q a' w'):LW P (qy_ g cx T kt++rest) n Q a w:=by
 have hle:=hc.le
 have h1m:=hc.one
 have hsm:=hc.s
 cases toff with
 | none=>
  have hf:cx.hf=false:=htoff
  have hfx:=hw.nf hf
  subst hfx
  obtain rfl:t=[]:=ht
  have e:qy_ g cx T kt=[]:=by simp [qy_,hf]
  rw [e] at hn h ⊢
  exact h a w d (Pv.refl _ _ _ _ _) hw.s1 (by simpa [j0_] using Gr.refl hw.dst)
 | some o=>
  obtain ⟨hf,hF⟩:=htoff
  obtain ⟨mm,hmm,htg⟩:=ht
  have hfl':=hfl hf
  have e:qy_ g cx T kt=[gFx cx (gS [gwTagLen g cx.s T kt,gwTagEach g cx.s T kt]) jq_]:=by simp [qy_,hf]
  rw [e] at hn h ⊢
  have hn':n + 1 + 8 + 5<=a.tmps.size:=hn
  refine qc_ (s_fx (x:=n) (m:=m) (k0:=k0) (hw.sf hf) hle hk (by omega) fun a1 hp1=>?_)
  have hp1':Pv 1 m k0 n a a1:=⟨hp1.size,hp1.defers,fun s hs hs2=>hp1.get s (by omega) hs2⟩
  have hs1:=hp1.size
  have hg1:a1.get 1=d:=by rw [hp1.get 1 (by omega) (.inl h1m)];exact hw.s1
  have hss:a1.get cx.s=pt B O:=by rw [hp1.get _ (by omega) (.inl hsm.1)];exact hw.ss
  cases fx with
  | false=>
   simp only [Bool.false_eq_true,if_false]
   exact .skip (h a1 w d hp1' hg1 (by simpa [j0_] using Gr.refl hw.dst))
  | true=>
   simp only [if_true]
   have hlen:(j0_ true t).length=(uvar (w32 t.length)).length + (jy_ t).length:=by simp [j0_]
   rw [hlen] at hlim
   refine q4_ (qc_ (qj_ (qd_ (qd_ ?_))))
   rw [qb_,hg1,qb_,gpo (by omega),hss]
   refine qo_ (by rw [qb_,gpe (by simp only [qa_];omega)];rfl) ?_
   refine jz_ (by rw [qb_,gpe (by simp only [qa_];omega)]) hF ?_
   refine qs_ (vs:=#[pt B (O + o)]) (K0.tlE hfl') ?_ (K0.tlC hfl' w B (O + o) mm _ t hmm htg) fun e2 w2 hR=>⟨_,hR.1,?_⟩
   ·simp only [List.map_cons,List.map_nil,qb_]
    rw [gpe (by simp only [qa_];omega)]
    rfl
   have hk2:=hR.2
   refine qu_ (k:=.i64) (k':=.u32) (m:=t.length) (by rw [qb_,gpe (by simp only [qa_];omega)]) K0.dInt (K0.dU32 hfl') ?_
   refine j9_ (k:=.u32) (m:=0) (n:=IntKind.u32.wrap t.length) rfl (by rw [qb_,gpe (by simp only [qa_];omega)]) (by simp) (run_add w2) ?_
   have hwr:IntKind.u32.wrap (0 + IntKind.u32.wrap (t.length:Int))=(w32 t.length:Nat):=by simp [IntKind.wrap,IntKind.bits,IntKind.signed,w32]
   rw [hwr]
   refine wl_callSet (K0.uvE hfl') ?_ (K0.uvC hfl' (w32 t.length) w2 (w32_lt _) L) (hw.dst.keep hk2 fun _ _ h=>h) (Nat.le_trans hw.Lw hk2.size) (by omega) (by simp only [qa_];omega) fun w3 d3 hg3=>wpList_nil ?_
   ·simp only [List.map_cons,List.map_nil,qb_]
    rw [gpo (by omega),gpo (by omega),gpo (by omega),gpo (by omega),gpo (by omega),gpo (by omega),gpe (by omega),gpe (by simp only [qa_];omega)]
   have hg03:Gr L te d w d3 (bs++uvar (w32 t.length)) w3:=Gr.pre hk2 (fun _ _ h=>h) hg3
   have hfar:=Gr.far hw.dst hg03
   have hmm3:w3.cell? ⟨B,O + o,none⟩=some mm:=hfar.cell (by have:=hw.BL;omega) hmm
   have htg3:=htg.keep hfar
   have key:∀ (a2:Act),Pv 1 m k0 n a a2->a2.get 1=d3->a2.get cx.s=pt B O->LW P [gwTagEach g cx.s T kt] (n + 1 + 8) (Exit.then (LW P rest (gL [gFx cx (gS [gwTagLen g cx.s T kt,gwTagEach g cx.s T kt]) jq_] n).2 Q) Q) a2 w3:=by
    intro a2 hp2 hg2 hss2
    have hs2:=hp2.size
    refine qc_ (qj_ (qd_ ?_))
    rw [qb_,hss2]
    refine qo_ (by rw [qb_,gpe (by omega)];rfl) ?_
    refine jz_ (by rw [qb_,gpe (by simp only [qa_];omega)]) hF (qd_ ?_)
    rw [qb_,gpo (by omega),gpo (by omega),gpo (by omega),hg2]
    refine qs_ (vs:=#[pt B (O + o),d3]) (K0.teE hfl') ?_ (K0.teC hfl' w3 B (O + o) mm L t d3 _ hmm3 hw.BL htg3 hg03.dst (Nat.le_trans hw.Lw hg03.keeps.size) (by rw [List.length_append];omega)) fun e4 w4 hR4=>?_
    ·simp only [List.map_cons,List.map_nil,qb_]
     rw [gpo (by omega),gpe (by simp only [qa_];omega),gpe (by simp only [qa_];omega)]
     rfl
    obtain ⟨d4,he4,hg4⟩:=hR4
    refine ⟨d4,he4,qg_ (wpList_nil (ja_ (h _ w4 d4 ?_ ?_ ?_)))⟩
    ·exact hp2.trans ((((((Pv.refl _ _ _ _ _).put _ (by omega)).put _ (by omega)).put _ (by omega)).put _ (by omega)).put _ (by omega) |>.put _ (.inl rfl))
    ·rw [gpe (by simp only [qa_];omega),qb_,gpe (by simp only [qa_];omega)]
    ·have:=hg03.trans hg4
     simpa [j0_,List.append_assoc] using this
   refine key _ ?_ (gpe (by simp only [qa_];omega)) ?_
   ·exact hp1'.trans (((((((((Pv.refl _ _ _ _ _).put _ (by omega)).put _ (by omega)).put _ (by omega)).put _ (by omega)).put _ (by omega)).put _ (by omega)).put _ (by omega)).put _ (by omega) |>.put _ (.inl rfl))
   ·have hs1':=hsm.1
    have hs2':=hsm.2
    rw [gpo (by omega),gpo (by omega),gpo (by omega),gpo (by omega),gpo (by omega),gpo (by omega),gpo (by omega),gpo (by omega),gpo (by omega)];exact hss
end
def okStW (e:EvW) (hf:Bool) (T kt:Nat) (toff:Option Nat):Bool:=match toff with | some o=>hf && fldB e.P T kt (fldT e.P T kt) o true 1 | none=>!hf
mutual
def okTyW (e:EvW) (hf:Bool) (m k0 T off:Nat):Ty->Nm->Bool
 | .prim p,nm=>zi_ e hf m k0 (.prim p) (nm.n 0) (nm.l.drop 4) && nm.n 1 == T && fldB e.P T (nm.n 2) (nm.n 3) off (Ty.agg (.prim p)) (Ty.sz (.prim p)) && (p != .uuid || nm.n 3 == e.g.tUuid)
 | .str nul,nm=>zi_ e hf m k0 (.str nul) (nm.n 0) (nm.l.drop 4) && nm.n 1 == T && fldB e.P T (nm.n 2) (nm.n 3) off false 1
 | .bytes nul,nm=>zi_ e hf m k0 (.bytes nul) (nm.n 0) [] && nm.n 1 == T && fldB e.P T (nm.n 2) (nm.n 3) off false 1
 | .list nul esz el,nm=>
  decide (m<=nm.n 0/\nm.n 0 < nm.n 4/\nm.n 4 < k0) && nm.n 1 == T && fldB e.P T (nm.n 2) (nm.n 3) off false 1 && (!nul.isSome || e.nl) &&
  (match rowOf e.P (nm.n 3) with
   | some (E,sz,_)=>sz == esz && okElW e hf (nm.n 4 + 1) k0 E esz el (nm.sub 0) && (nul.isSome || hasLstW e.g hf)
   | none=>false)
 | .struct none toff fs,nm=>
  decide (m<=nm.n 0/\nm.n 0 < k0) && nm.n 1 == T && fldB e.P T (nm.n 2) (fldT e.P T (nm.n 2)) off true (sizeT e.P (fldT e.P T (nm.n 2))) && okStW e hf (nm.n 3) (nm.n 4) toff && okFdsW e hf (nm.n 0 + 1) k0 (nm.n 3) fs (nm.sub 0).s
 | .struct (some _) toff fs,nm=>
  decide (m<=nm.n 0/\nm.n 0 < k0) && nm.n 1 == T && fldB e.P T (nm.n 2) (nm.n 3) off false 1 && ptrB e.P (nm.n 3) && okStW e hf (nm.n 4) (nm.n 5) toff && okFdsW e hf (nm.n 0 + 1) k0 (nm.n 4) fs (nm.sub 0).s
def okElW (e:EvW) (hf:Bool) (m k0 E esz:Nat):Ty->Nm->Bool
 | .struct none toff fs,nm=>decide (m<=nm.n 0/\nm.n 0 < k0) && okStW e hf (nm.n 1) (nm.n 2) toff && okFdsW e hf (nm.n 0 + 1) k0 (nm.n 1) fs (nm.sub 0).s
 | .struct (some _) _ _,_=>false
 | .list _ _ _,_=>false
 | .prim p,nm=>zi_ e hf m k0 (.prim p) (nm.n 0) (nm.l.drop 2) && nm.n 1 == E && varB e.P E (Ty.agg (.prim p)) (Ty.sz (.prim p)) && Ty.sz (.prim p) == esz && (p != .uuid || E == e.g.tUuid)
 | .str nul,nm=>zi_ e hf m k0 (.str nul) (nm.n 0) (nm.l.drop 2) && nm.n 1 == E && varB e.P E false 1 && 1 == esz
 | .bytes nul,nm=>zi_ e hf m k0 (.bytes nul) (nm.n 0) (nm.l.drop 2) && nm.n 1 == E && varB e.P E false 1 && 1 == esz
def okFdsW (e:EvW) (hf:Bool) (m k0 T:Nat):Fds->List Nm->Bool
 | .nil,_=>true
 | .cons _ _ tag _ off ty r,ms=>tag.isNone && okTyW e hf m k0 T off ty (ms.headD (.mk [] [])) && okFdsW e hf m k0 T r ms.tail
end
def toG (g:GW):G:=⟨fun _=>0,fun _=>0,0,0,0,0,0,0,0,0,0,0,g.tVer,0,0,0,0,0,0,0,0,0,0⟩
theorem gwGuard_eq (g:GW) (cx:Cx) (lo:Nat) (hi:Option Nat) (A:GC):gwGuard g cx lo hi A=zo_ (toG g) cx lo hi A:=by cases hi <;> rfl
theorem up_wfx {cx:Cx} {A B:GC} (hA:Up A) (hB:Up B):Up (gwFx cx A B):=up_ite (j3_ hA hB) hB
theorem zj_ (g:GW) (cx:Cx) (ty:Ty) (v:Nat) (x:List Nat):UpL (zh_ g cx ty v x):=by
 unfold zh_
 split
 ·exact qf_ (qi_ _ _) qk_
 ·split
  ·exact qf_ (qi_ _ _) (qf_ (qi_ _ _) qk_)
  ·exact qf_ (qi_ _ _) qk_
 all_goals first | exact qf_ (up_wfx (qi_ _ _) (qi_ _ _)) qk_ | exact qf_ (j3_ (up_S (qf_ (qi_ _ _) (qf_ (j3_ (qi_ _ _) (je_ _)) (qf_ (qi_ _ _) (qf_ (up_wfx (qi_ _ _) (qi_ _ _)) qk_))))) (up_wfx (qi_ _ _) (qi_ _ _))) qk_ | exact qk_
theorem j4_ (g:GW) (cx:Cx) (T kt:Nat):UpL (qy_ g cx T kt):=
 upL_ite (qf_ (j3_ (up_S (qf_ (qi_ _ _) (qf_ (qi_ _ _) qk_))) (je_ _)) qk_) qk_
theorem up_wlen (g:GW) (cx:Cx) (nul:Option Nat) (v F:Nat):Up (gwLen g cx nul v F):=by
 cases nul <;> exact up_wfx (qi_ _ _) (qi_ _ _)
theorem up_wfor (g:GW) (v i b1 b2 F:Nat) {body:List GC} (h:UpL body):Up (gwFor g v i b1 b2 F body):=fun n=>by
 have:=h (n + 5)
 show n<=(gL body (n + 5)).2 + 1
 omega
theorem up_wguard {g:GW} {cx:Cx} {lo:Nat} {hi:Option Nat} {A:GC} (h:Up A):Up (gwGuard g cx lo hi A):=by
 cases hi with
 | none=>exact up_ite h (j3_ h (je_ _))
 | some q=>exact j3_ h (je_ _)
theorem up_wget (ty:Ty) (s v T k F:Nat):Up (gwGet ty s v T k F):=up_ite (qi_ _ _) (qi_ _ _)
theorem up_widx (ty:Ty) (v i e F E:Nat):Up (gwIdxG ty v i e F E):=up_ite (qi_ _ _) (qi_ _ _)
mutual
theorem upL_wty (g:GW):∀ (ty:Ty) (cx:Cx) (nm:Nm),UpL (gwTy g cx ty nm)
 | .prim _,_cx,_nm=>qf_ (up_wget _ _ _ _ _ _) (zj_ _ _ _ _ _)
 | .str _,_cx,_nm=>qf_ (qi_ _ _) (zj_ _ _ _ _ _)
 | .bytes _,_cx,_nm=>qf_ (qi_ _ _) (zj_ _ _ _ _ _)
 | .list _nul _ e,cx,_nm=>qf_ (qi_ _ _) (qf_ (up_wlen _ _ _ _ _) (qf_ (up_wfor _ _ _ _ _ _ (upL_wel g e cx _ _ _ _)) qk_))
 | .struct none _ fs,_cx,_nm=>qf_ (qi_ _ _) (ql_ (upL_wfds g fs _ _) (j4_ _ _ _ _))
 | .struct (some _) _ fs,_cx,_nm=>qf_ (qi_ _ _) (qf_ (j3_ (qi_ _ _) (up_S (qf_ (qi_ _ _) (ql_ (upL_wfds g fs _ _) (j4_ _ _ _ _))))) qk_)
theorem upL_wel (g:GW):∀ (ty:Ty) (cx:Cx) (v i F:Nat) (nm:Nm),UpL (gwEl g cx ty v i F nm)
 | .prim _,_cx,_v,_i,_F,_nm=>qf_ (up_widx _ _ _ _ _ _) (zj_ _ _ _ _ _)
 | .str _,_cx,_v,_i,_F,_nm=>qf_ (up_widx _ _ _ _ _ _) (zj_ _ _ _ _ _)
 | .bytes _,_cx,_v,_i,_F,_nm=>qf_ (up_widx _ _ _ _ _ _) (zj_ _ _ _ _ _)
 | .list _ _ _,_cx,_v,_i,_F,_nm=>qf_ (up_widx _ _ _ _ _ _) (zj_ _ _ _ _ _)
 | .struct _ _ fs,_cx,_v,_i,_F,_nm=>qf_ (qi_ _ _) (ql_ (upL_wfds g fs _ _) (j4_ _ _ _ _))
theorem upL_wfds (g:GW):∀ (fs:Fds) (cx:Cx) (ms:List Nm),UpL (gwFds g cx fs ms)
 | .nil,_,_=>qk_
 | .cons _lo _hi _tag _ _ ty r,cx,_ms=>upL_ite (qf_ (up_wguard (up_S (upL_wty g ty cx _))) (upL_wfds g r cx _)) (upL_wfds g r cx _)
end
theorem RpF.far {L:Nat} {w w':World} (hk:Keeps (fun k=>L<=k) w w') {fs:Fds} {b o:Nat} {vs:List V} (h:RpF w (fun k=>L<=k) fs b o vs) (hb:b < L) (hL:L<=w.heap.size):RpF w' (fun k=>L<=k) fs b o vs:=
 RpF.frame hk fs b o vs 0 h fun j _ _=>q7_ (hk.block b (by omega) (by omega)) j
theorem TgAt.far {L:Nat} {w w':World} (hk:Keeps (fun k=>L<=k) w w') {toff:Option Nat} {b o:Nat} {t:List (Nat × Bs)} (h:TgAt w (fun k=>L<=k) b o toff t) (hb:b < L) (hL:L<=w.heap.size):TgAt w' (fun k=>L<=k) b o toff t:=
 h.frame hk fun k _=>q7_ (hk.block b (by omega) (by omega)) _
theorem Keeps.none {X:Nat->Prop} {w w':World} (h:Keeps (fun _=>False) w w'):Keeps X w w':=h.mono fun _ _ h=>h.elim
section
variable (P:Program) (g:GW) (av:PF->Bool) (fl nl:Bool) (te:Nat)
def WrTy (ty:Ty):Prop:=
 ∀ (nm:Nm) (cx:Cx) (fx:Bool) (ver:Int) (B O L m k0 n T off:Nat) (v:V) (d:Value) (bs:Bs) (K E:Act->World->Prop) (a:Act) (w:World),
  okTyW ⟨P,g,av,nl⟩ cx.hf m k0 T off ty nm=true->WC cx fx ver te L B O d bs a w->CxW cx m k0->(cx.hf=true->fl=true)->k0<=n->k0<=a.tmps.size->(gL (gwTy g cx ty nm) n).2<=a.tmps.size ->
  Rp w (fun k=>L<=k) ty B (O + off) v->bs.length + (wrTy fx ver ty v).length<=LIM ->
  (∀ a' w' d',Pv 1 m k0 n a a'->a'.get 1=d'->Gr L te d w d' (bs++wrTy fx ver ty v) w'->K a' w')->LW P (gwTy g cx ty nm) n (Rt K E) a w
def WrEl (ty:Ty):Prop:=
 ∀ (nm:Nm) (cx:Cx) (fx:Bool) (ver:Int) (B O L m k0 n esz vs i F E' p q cnt c j:Nat) (v:V) (d:Value) (bs:Bs) (K E:Act->World->Prop) (a:Act) (w:World),
  okElW ⟨P,g,av,nl⟩ cx.hf m k0 E' esz ty nm=true->WC cx fx ver te L B O d bs a w->CxW cx m k0->(cx.hf=true->fl=true)->k0<=n->k0<=a.tmps.size->(gL (gwEl g cx ty vs i F nm) n).2<=a.tmps.size ->
  a.get vs=.slice (some ⟨p,q,none⟩) cnt c->a.get i=.int .i64 j->j < cnt->vs < m->i < m->P.underlying F=some (.slice E')->(∀ w,(sizeOf E').run P w=.ok esz w)->p < L ->
  Rp w (fun k=>L<=k) ty p (q + j * esz) v->bs.length + (wrTy fx ver ty v).length<=LIM ->
  (∀ a' w' d',Pv 1 m k0 n a a'->a'.get 1=d'->Gr L te d w d' (bs++wrTy fx ver ty v) w'->K a' w')->LW P (gwEl g cx ty vs i F nm) n (Rt K E) a w
def WrFds (fs:Fds):Prop:=
 ∀ (ms:List Nm) (cx:Cx) (fx:Bool) (ver:Int) (B O L m k0 n T:Nat) (vs:List V) (d:Value) (bs:Bs) (K E:Act->World->Prop) (a:Act) (w:World),
  okFdsW ⟨P,g,av,nl⟩ cx.hf m k0 T fs ms=true->WC cx fx ver te L B O d bs a w->CxW cx m k0->(cx.hf=true->fl=true)->k0<=n->k0<=a.tmps.size->(gL (gwFds g cx fs ms) n).2<=a.tmps.size ->
  RpF w (fun k=>L<=k) fs B O vs->bs.length + (wrFds fx ver fs vs).length<=LIM ->
  (∀ a' w' d',Pv 1 m k0 n a a'->a'.get 1=d'->Gr L te d w d' (bs++wrFds fx ver fs vs) w'->K a' w')->LW P (gwFds g cx fs ms) n (Rt K E) a w
end
section
variable {P:Program} {g:GW} {av:PF->Bool} {fl nl:Bool} {te:Nat}
theorem w_st (K0:KW P g av fl nl te) {fs:Fds} (hfs:WrFds P g av fl nl te fs) {ms:List Nm} {cx:Cx} {fx:Bool} {ver:Int} {B O L m k0 n T kt:Nat} {toff:Option Nat} {vs:List V} {t:List (Nat × Bs)} {d:Value} {bs:Bs} {K E:Act->World->Prop} {a:Act} {w:World}
  (hst:okStW ⟨P,g,av,nl⟩ cx.hf T kt toff=true) (hok:okFdsW ⟨P,g,av,nl⟩ cx.hf m k0 T fs ms=true) (hw:WC cx fx ver te L B O d bs a w) (hc:CxW cx m k0) (hfl:cx.hf=true->fl=true) (hk:k0<=n) (hk0:k0<=a.tmps.size) (hn:(gL (gwFds g cx fs ms++qy_ g cx T kt) n).2<=a.tmps.size)
  (hr:RpF w (fun k=>L<=k) fs B O vs) (ht:TgAt w (fun k=>L<=k) B O toff t) (hlim:bs.length + (wrFds fx ver fs vs++j0_ fx t).length<=LIM)
  (h:∀ a' w' d',Pv 1 m k0 n a a'->a'.get 1=d'->Gr L te d w d' (bs++(wrFds fx ver fs vs++j0_ fx t)) w'->K a' w'):LW P (gwFds g cx fs ms++qy_ g cx T kt) n (Rt K E) a w:=by
 rw [jg_] at hn
 rw [List.length_append] at hlim
 have hup:=j4_ g cx T kt (gL (gwFds g cx fs ms) n).2
 have hup0:=upL_wfds g fs cx ms n
 refine LW_append ?_
 rw [qt_]
 refine hfs ms cx fx ver B O L m k0 n T vs d bs _ E a w hok hw hc hfl hk hk0 (Nat.le_trans hup hn) hr (by omega) fun a1 w1 d1 hp1 hg1 hgr1=>?_
 have hs1:=hp1.size
 have hw1:=hw.step hc hp1 hg1 hgr1
 have hfar:=Gr.far hw.dst hgr1
 have e:qy_ g cx T kt=qy_ g cx T kt++[]:=(List.append_nil _).symm
 rw [e]
 refine s_wtags (_off:=0) (F:=fldT P T kt) (sz:=1) (agg:=true) K0 hfl hw1 hc (by omega) (by rw [hs1];exact hn) ?_ (ht.far hfar hw.BL hw.Lw) (by rw [List.length_append];omega) fun a' w' d' hp' h1' hg'=>ja_ (h a' w' d' (hp1.trans (hp'.mono (Nat.le_refl _) hup0)) h1' ?_)
 ·cases toff with
  | none=>simpa [okStW] using hst
  | some o=>
   simp only [okStW,Bool.and_eq_true] at hst
   exact ⟨hst.1,fldB_ok hst.2⟩
 ·rw [<- List.append_assoc];exact hgr1.trans hg'
theorem wfds_nil:WrFds P g av fl nl te .nil:=fun ms cx fx ver B O L m k0 n T vs d bs K E a w hok hw hc hfl hk hk0 hn hr hlim h=>
 ja_ (h a w d (Pv.refl _ _ _ _ _) hw.s1 (by simpa [wrFds] using Gr.refl hw.dst))
theorem wfds_cons {lo:Nat} {hi tag:Option Nat} {df:Int} {off:Nat} {ty:Ty} {r:Fds} (hty:WrTy P g av fl nl te ty) (hr0:WrFds P g av fl nl te r):WrFds P g av fl nl te (.cons lo hi tag df off ty r):=by
 intro ms cx fx ver B O L m k0 n T vs d bs K E a w hok hw hc hfl hk hk0 hn hr hlim h
 simp only [okFdsW,Bool.and_eq_true] at hok
 obtain ⟨⟨htag,hoky⟩,hokr⟩:=hok
 obtain ⟨v,vs',rfl,hv,hrs⟩:=hr
 have hcode:gwFds g cx (.cons lo hi tag df off ty r) ms=gwGuard g cx lo hi (gS (gwTy g cx ty (ms.headD (.mk [] [])))) :: gwFds g cx r ms.tail:=by simp only [gwFds,htag,if_true]
 have hwr:wrFds fx ver (.cons lo hi tag df off ty r) (v :: vs')=(if has lo hi ver then wrTy fx ver ty v else [])++wrFds fx ver r vs':=by
  simp only [wrFds,htag,Bool.true_and,List.headD_cons,List.tail_cons]
 rw [hcode] at hn ⊢
 rw [hwr] at hlim h
 rw [List.length_append] at hlim
 have hupA:Up (gS (gwTy g cx ty (ms.headD (.mk [] [])))):=up_S (upL_wty g ty cx _)
 have hupR:=upL_wfds g r cx ms.tail (gwGuard g cx lo hi (gS (gwTy g cx ty (ms.headD (.mk [] [])))) n).2
 have hupG:n<=(gwGuard g cx lo hi (gS (gwTy g cx ty (ms.headD (.mk [] [])))) n).2:=up_wguard hupA n
 have hn1:(gwGuard g cx lo hi (gS (gwTy g cx ty (ms.headD (.mk [] [])))) n).2<=a.tmps.size:=Nat.le_trans hupR hn
 have hle:=hc.le
 have h1m:=hc.one
 have hvm:=hc.ver
 have rest:∀ (a1:Act) (w1:World) (d1:Value) (enc:Bs),Pv 1 m k0 n a a1->a1.get 1=d1->Gr L te d w d1 (bs++enc) w1->enc=(if has lo hi ver then wrTy fx ver ty v else [])->LW P (gwFds g cx r ms.tail) (gwGuard g cx lo hi (gS (gwTy g cx ty (ms.headD (.mk [] [])))) n).2 (Rt K E) a1 w1:=by
  intro a1 w1 d1 enc hp1 hg1 hgr1 he
  have hs1:=hp1.size
  refine hr0 ms.tail cx fx ver B O L m k0 _ T vs' d1 (bs++enc) K E a1 w1 hokr (hw.step hc hp1 hg1 hgr1) hc hfl (by omega) (by omega) (by rw [hs1];exact hn) (hrs.far (Gr.far hw.dst hgr1) hw.BL hw.Lw) (by rw [List.length_append,he];omega) fun a' w' d' hp' h1' hg'=>h a' w' d' (hp1.trans (hp'.mono (Nat.le_refl _) hupG)) h1' ?_
  rw [<- he,<- List.append_assoc]
  exact hgr1.trans hg'
 refine qc_ ?_
 rw [qt_]
 rw [gwGuard_eq] at hn1 hupG rest ⊢
 refine s_guard (x:=n) (m:=m) (k0:=k0) hw.sv hle hk (by omega) hupA hn1 (fun a1 n1 hp1 hnn hn6 hgg hhas=>?_) (fun a1 hp1 hhas=>?_)
 ·have hp1':Pv 1 m k0 n a a1:=⟨hp1.size,hp1.defers,fun s hs hs2=>hp1.get s (by omega) hs2⟩
  have hs1:=hp1.size
  have hg1:a1.get 1=d:=by rw [hp1.get 1 (by omega) (.inl h1m)];exact hw.s1
  refine q4_ (hty (ms.headD (.mk [] [])) cx fx ver B O L m k0 n1 T off v d bs _ E a1 w hoky (hw.step hc hp1' hg1 (Gr.refl hw.dst)) hc hfl (by omega) (by omega) ?_ hv (by rw [if_pos hhas] at hlim;omega) fun a' w' d' hp' h1' hg'=>rest a' w' d' _ (hp1'.trans (hp'.mono (Nat.le_refl _) hnn)) h1' hg' (by rw [if_pos hhas]))
  rw [hs1]
  have:(gL (gwTy g cx ty (ms.headD (.mk [] []))) n1).2=(gS (gwTy g cx ty (ms.headD (.mk [] []))) n1).2:=rfl
  rw [this,<- hgg];exact hn1
 ·have hp1':Pv 1 m k0 n a a1:=⟨hp1.size,hp1.defers,fun s hs hs2=>hp1.get s (by omega) hs2⟩
  have hg1:a1.get 1=d:=by rw [hp1.get 1 (by omega) (.inl h1m)];exact hw.s1
  exact rest a1 w d [] hp1' hg1 (by simpa using Gr.refl hw.dst) (by rw [hhas];rfl)
theorem leaf_wr (fx:Bool) (ver:Int) (ty:Ty) (v:V) (h:ty.leaf=true):wrTy fx ver ty v=(leafPF fx ver ty).wr v:=by
 cases ty with
 | prim p=>simp [wrTy]
 | str q=>simp [wrTy]
 | bytes q=>simp [wrTy]
 | list _ _ _=>cases h
 | struct _ _ _=>cases h
theorem wty_leaf (K0:KW P g av fl nl te) {ty:Ty} (hl:ty.leaf=true) {x:Nm->List Nat} (hcode:∀ cx nm,gwTy g cx ty nm=gwGet ty cx.s (nm.n 0) (nm.n 1) (nm.n 2) (nm.n 3) :: zh_ g cx ty (nm.n 0) (x nm))
  (hok:∀ hf m k0 T off nm,okTyW ⟨P,g,av,nl⟩ hf m k0 T off ty nm=true->zi_ ⟨P,g,av,nl⟩ hf m k0 ty (nm.n 0) (x nm)=true/\nm.n 1=T/\fldB P T (nm.n 2) (nm.n 3) off ty.agg ty.sz=true/\(isUuid ty=true->nm.n 3=g.tUuid/\av .uuid=true)):WrTy P g av fl nl te ty:=by
 intro nm cx fx ver B O L m k0 n T off v d bs K E a w hoky hw hc hfl hk hk0 hn hr hlim h
 obtain ⟨h1,hT,h2,h3⟩:=hok _ _ _ _ _ _ hoky
 subst hT
 rw [hcode] at hn ⊢
 rw [leaf_wr fx ver ty v hl] at hlim h
 have hvs:m<=nm.n 0/\nm.n 0 < k0:=by
  simp only [zi_,Bool.and_eq_true,decide_eq_true_eq] at h1
  exact h1.1.1.2
 have hup:=zj_ g cx ty (nm.n 0) (x nm) (gwGet ty cx.s (nm.n 0) (nm.n 1) (nm.n 2) (nm.n 3) n).2
 have hget:(gwGet ty cx.s (nm.n 0) (nm.n 1) (nm.n 2) (nm.n 3) n).2=n + 4:=by unfold gwGet;split <;> rfl
 have hn2:(gL (zh_ g cx ty (nm.n 0) (x nm)) (gwGet ty cx.s (nm.n 0) (nm.n 1) (nm.n 2) (nm.n 3) n).2).2<=a.tmps.size:=hn
 rw [hget] at hup hn2
 refine qc_ (s_wget (off:=off) (X:=fun k=>L<=k) hl hw.ss (fldB_ok h2) (fun hu=>by obtain ⟨e1,e2⟩:=h3 hu;rw [e1];exact K0.uuid e2) (fun _ _ _=>trivial) hr hvs hc.le hk (by omega) hc.one fun a1 w1 cs hp1 hg1 hk1 hla hlr=>?_)
 rw [hget]
 have hs1:=hp1.size
 have hgr1:Gr L te d w d bs w1:=Gr.pre hk1 (fun _ _ h=>h) (Gr.refl (hw.dst.keep hk1 fun _ _ h=>h))
 have e:zh_ g cx ty (nm.n 0) (x nm)=zh_ g cx ty (nm.n 0) (x nm)++[]:=(List.append_nil _).symm
 rw [e]
 exact s_wleaf K0 h1 (hw.step hc hp1 (hg1.trans hw.s1) hgr1) hc (by omega) (by omega) (by rw [hs1];exact hn2) hla hlr hlim fun a' w' d' hp' h1' hg'=>ja_ (h a' w' d' (hp1.trans (hp'.mono (Nat.le_refl _) (by omega))) h1' (Gr.pre hk1 (fun _ _ h=>h) hg'))
theorem wel_leaf (K0:KW P g av fl nl te) {ty:Ty} (hl:ty.leaf=true) (hcode:∀ cx v i F nm,gwEl g cx ty v i F nm=gwIdxG ty v i (nm.n 0) F (nm.n 1) :: zh_ g cx ty (nm.n 0) (nm.l.drop 2))
  (hok:∀ hf m k0 E' esz nm,okElW ⟨P,g,av,nl⟩ hf m k0 E' esz ty nm=true->zi_ ⟨P,g,av,nl⟩ hf m k0 ty (nm.n 0) (nm.l.drop 2)=true/\nm.n 1=E'/\varB P E' ty.agg ty.sz=true/\ty.sz=esz/\(isUuid ty=true->E'=g.tUuid/\av .uuid=true)):WrEl P g av fl nl te ty:=by
 intro nm cx fx ver B O L m k0 n esz vs i F E' p q cnt c j v d bs K E a w hoky hw hc hfl hk hk0 hn hvs hi hj hvm him hF hE hpL hr hlim h
 obtain ⟨h1,hE',h2,rfl,h3⟩:=hok _ _ _ _ _ _ hoky
 rw [hcode,hE'] at hn ⊢
 rw [leaf_wr fx ver ty v hl] at hlim h
 have hsl:m<=nm.n 0/\nm.n 0 < k0:=by
  simp only [zi_,Bool.and_eq_true,decide_eq_true_eq] at h1
  exact h1.1.1.2
 have hle:=hc.le
 have hget:(gwIdxG ty vs i (nm.n 0) F E' n).2=n + 4:=by unfold gwIdxG;split <;> rfl
 have hup:=zj_ g cx ty (nm.n 0) (nm.l.drop 2) (n + 4)
 have hn2:(gL (zh_ g cx ty (nm.n 0) (nm.l.drop 2)) (gwIdxG ty vs i (nm.n 0) F E' n).2).2<=a.tmps.size:=hn
 rw [hget] at hn2
 refine qc_ (s_widx (X:=fun k=>L<=k) hl hvs hi hj hF (varB_ok h2) (fun hu=>by obtain ⟨e1,e2⟩:=h3 hu;rw [e1];exact K0.uuid e2) hr hsl (by omega) (by omega) hle hk (by omega) hc.one fun a1 w1 cs hp1 hg1 hk1 hla hlr=>?_)
 rw [hget]
 have hs1:=hp1.size
 have hgr1:Gr L te d w d bs w1:=Gr.pre hk1 (fun _ _ h=>h) (Gr.refl (hw.dst.keep hk1 fun _ _ h=>h))
 have e:zh_ g cx ty (nm.n 0) (nm.l.drop 2)=zh_ g cx ty (nm.n 0) (nm.l.drop 2)++[]:=(List.append_nil _).symm
 rw [e]
 exact s_wleaf K0 h1 (hw.step hc hp1 (hg1.trans hw.s1) hgr1) hc (by omega) (by omega) (by rw [hs1];exact hn2) hla hlr hlim fun a' w' d' hp' h1' hg'=>ja_ (h a' w' d' (hp1.trans (hp'.mono (Nat.le_refl _) (by omega))) h1' (Gr.pre hk1 (fun _ _ h=>h) hg'))
end
section
variable {P:Program} {g:GW} {av:PF->Bool} {fl nl:Bool} {te:Nat}
theorem wel_struct (K0:KW P g av fl nl te) {toff:Option Nat} {fs:Fds} (hfs:WrFds P g av fl nl te fs):WrEl P g av fl nl te (.struct none toff fs):=by
 intro nm cx fx ver B O L m k0 n esz vs i F E' p q cnt c j v d bs K E a w hoky hw hc hfl hk hk0 hn hvs hi hj hvm him hF hE hpL hr hlim h
 simp only [okElW,Bool.and_eq_true,decide_eq_true_eq] at hoky
 obtain ⟨⟨hsl,hst⟩,hokf⟩:=hoky
 obtain ⟨vv,t,rfl,hrf,ht⟩:=hr
 have hle:=hc.le
 have hn2:(gL (gwFds g { cx with s:=nm.n 0 } fs (nm.sub 0).s++qy_ g { cx with s:=nm.n 0 } (nm.n 1) (nm.n 2)) (n + 3)).2<=a.tmps.size:=hn
 have hup:=ql_ (upL_wfds g fs { cx with s:=nm.n 0 } (nm.sub 0).s) (j4_ g { cx with s:=nm.n 0 } (nm.n 1) (nm.n 2)) (n + 3)
 show LW P (zd_ vs i (nm.n 0) F :: (gwFds g { cx with s:=nm.n 0 } fs (nm.sub 0).s++qy_ g { cx with s:=nm.n 0 } (nm.n 1) (nm.n 2))) n (Rt K E) a w
 refine qc_ (s_widxAddr hvs hi hj hF hE hsl (by omega) (by omega) hle hk (by omega) hc.one fun a1 hp1 hg1 he1=>?_)
 have hs1:=hp1.size
 show LW P _ (n + 3) (Rt K E) a1 w
 have hw1:=hw.at hc hp1 (hg1.trans hw.s1) he1 hpL
 exact w_st K0 hfs (cx:={ cx with s:=nm.n 0 }) hst hokf hw1 (hc.at (m':=nm.n 0 + 1) ⟨hsl.1,by omega⟩ (by omega) (by omega)) hfl (by omega) (by omega) (by rw [hs1];exact hn2) hrf ht (by simpa [wrTy,V.fields,V.tags] using hlim) fun a' w' d' hp' h1' hg'=>h a' w' d' (hp1.trans (hp'.mono (by omega) (by omega))) h1' (by simpa [wrTy,V.fields,V.tags] using hg')
theorem wty_list (K0:KW P g av fl nl te) {nul:Option Nat} {esz:Nat} {e:Ty} (he:WrEl P g av fl nl te e):WrTy P g av fl nl te (.list nul esz e):=by
 intro nm cx fx ver B O L m k0 n T off v d bs K E a w hoky hw hc hfl hk hk0 hn hr hlim h
 simp only [okTyW,Bool.and_eq_true,Bool.or_eq_true,Bool.not_eq_true',decide_eq_true_eq,beq_iff_eq] at hoky
 obtain ⟨⟨⟨⟨hsl,hT⟩,hfld⟩,hnl⟩,hrow⟩:=hoky
 subst hT
 cases hro:rowOf P (nm.n 3) with
 | none=>rw [hro] at hrow;cases hrow
 | some row=>
 obtain ⟨E',sz,z⟩:=row
 rw [hro] at hrow
 simp only [Bool.and_eq_true,Bool.or_eq_true,beq_iff_eq] at hrow
 obtain ⟨⟨rfl,hokE⟩,hhl⟩:=hrow
 have hhl':nul.isSome=false->hasLstW g cx.hf=true:=fun h=>hhl.resolve_left (by rw [h];simp)
 have hR:=rowOf_ok hro
 have hle:=hc.le
 have h1m:=hc.one
 have hF':=fldB_ok hfld
 have hform:∃ base len c,w.cell? ⟨B,O + off,none⟩=some (.slice base len c)/\len=v.list.length/\len<=maxLen/\base.isNone=v.isNul/\(∀ i x,v.list[i]?=some x->∃ p q,base=some ⟨p,q,none⟩/\p < L/\Rp w (fun k=>L<=k) e p (q + i * sz) x):=by
  rcases hr with ⟨h1,rfl⟩ | ⟨xs,p,q,c,h1,h2,h3,h4,h5,rfl,h7⟩
  ·exact ⟨none,0,0,h1,rfl,by simp [maxLen],rfl,fun i x hx=>by simp [V.list] at hx⟩
  ·exact ⟨some ⟨p,q,none⟩,xs.length,c,h1,rfl,by omega,rfl,fun i x hx=>⟨p,q,rfl,by omega,h7 i x hx⟩⟩
 obtain ⟨base,len,c,hcell,hlen,hmax,hbase,hels⟩:=hform
 have hwr:wrTy fx ver (.list nul sz e) v=(if nul.isSome && base.isNone then wNull fx 4 else wCnt fx len)++wMany (wrTy fx ver e) v.list:=by simp only [wrTy,hbase,hlen]
 rw [hwr] at hlim h
 rw [List.length_append] at hlim
 have hnl':nul.isSome=true->nl=true:=fun hs=>by rcases hnl with hh | hh;rw [hs] at hh;cases hh;exact hh
 have hupLen:=up_wlen g cx nul (nm.n 0) (nm.n 3) (n + 4)
 have hupEl:=upL_wel g e cx (nm.n 0) (nm.n 4) (nm.n 3) (nm.sub 0)
 have hupFor:=up_wfor g (nm.n 0) (nm.n 4) (nm.n 5) (nm.n 6) (nm.n 3) hupEl (gwLen g cx nul (nm.n 0) (nm.n 3) (n + 4)).2
 have hn2:(gwFor g (nm.n 0) (nm.n 4) (nm.n 5) (nm.n 6) (nm.n 3) (gwEl g cx e (nm.n 0) (nm.n 4) (nm.n 3) (nm.sub 0)) (gwLen g cx nul (nm.n 0) (nm.n 3) (n + 4)).2).2<=a.tmps.size:=hn
 show LW P [gLoad cx.s (nm.n 0) (nm.n 1) (nm.n 2) (nm.n 3),gwLen g cx nul (nm.n 0) (nm.n 3),gwFor g (nm.n 0) (nm.n 4) (nm.n 5) (nm.n 6) (nm.n 3) (gwEl g cx e (nm.n 0) (nm.n 4) (nm.n 3) (nm.sub 0))] n (Rt K E) a w
 refine qc_ (s_load (x:=nm.n 0) (m:=m) (k0:=k0) hw.ss hF' hcell (.inl rfl) hle hk (by omega) (by omega) fun a1 hp1 hg1=>?_)
 have hs1:=hp1.size
 have hp1':=hp1.x1 ⟨hsl.1,by omega⟩
 have h11:a1.get 1=d:=(hp1.g1 ⟨hsl.1,by omega⟩ h1m).trans hw.s1
 have hw1:=hw.step hc hp1' h11 (Gr.refl hw.dst)
 show LW P [gwLen g cx nul (nm.n 0) (nm.n 3),gwFor g (nm.n 0) (nm.n 4) (nm.n 5) (nm.n 6) (nm.n 3) (gwEl g cx e (nm.n 0) (nm.n 4) (nm.n 3) (nm.sub 0))] (n + 4) (Rt K E) a1 w
 have hc2:CxW cx (nm.n 0 + 1) k0:=hc.mono (by omega) (by omega)
 refine qc_ (s_wlen (m:=nm.n 0 + 1) (k0:=k0) K0 hnl' hhl' hfl hw1 hc2 hg1 hR.und (by omega) (by omega) (by rw [hs1];omega) (by omega) fun a2 w2 d2 hp2 h12 hgr2=>?_)
 have hs2:=hp2.size
 have hg2:a2.get (nm.n 0)=.slice base len c:=by rw [hp2.get _ (by omega) (.inl (by omega))];exact hg1
 have hw2:=hw1.step hc2 hp2 h12 hgr2
 generalize hnp:(gwLen g cx nul (nm.n 0) (nm.n 3) (n + 4)).2=np at hupLen hupFor hn2 ⊢
 refine qc_ ?_
 rw [qt_]
 refine s_wfor (m:=nm.n 0 + 1) (k0:=k0) (W:=fun j d' w'=>Gr L te d w d' (bs++(if nul.isSome && base.isNone then wNull fx 4 else wCnt fx len)++wMany (wrTy fx ver e) (v.list.take j)) w') hg2 hR.und (by omega) (by omega) (by omega) (by omega) (by rw [hs2,hs1];exact hn2) (hupEl _) hmax ?_ (fun j a3 w3 hj hp3 hi3 hW=>?_) (fun a3 w3 hp3 hW=>?_)
 ·rw [h12]
  simpa [wMany] using hgr2
 ·have hs3:=hp3.size
  obtain ⟨x,hx⟩:∃ x,v.list[j]?=some x:=⟨v.list[j]'(by omega),List.getElem?_eq_getElem (by omega)⟩
  obtain ⟨p,q,rfl,hpL,hrx⟩:=hels j x hx
  have htake:v.list.take (j + 1)=v.list.take j++[x]:=by rw [List.take_add_one,hx];rfl
  have hmany:(wMany (wrTy fx ver e) v.list).length=(wMany (wrTy fx ver e) (v.list.take j)).length + (wrTy fx ver e x).length + (wMany (wrTy fx ver e) (v.list.drop (j + 1))).length:=by
   conv=>lhs;rw [<- List.take_append_drop (j + 1) v.list,htake]
   simp only [wMany,List.map_append,List.flatten_append,List.length_append,List.map_cons,List.map_nil,List.flatten_cons,List.flatten_nil,List.append_nil]
  have hp13:Pv 1 m k0 n a a3:=(hp1'.trans (hp2.mono (by omega) (by omega))).trans (hp3.mono (by omega) (by omega))
  have hw3:=hw.step hc hp13 rfl hW
  have hfar:=Gr.far hw.dst hW
  have hvs3:a3.get (nm.n 0)=.slice (some ⟨p,q,none⟩) len c:=by rw [hp3.get _ (by omega) (.inl (by omega))];exact hg2
  refine q4_ (he (nm.sub 0) cx fx ver B O L (nm.n 4 + 1) k0 (np + 5) sz (nm.n 0) (nm.n 4) (nm.n 3) E' p q len c j x (a3.get 1) _ _ E a3 w3 hokE hw3 (hc.mono (by omega) (by omega)) hfl (by omega) (by omega) ?_ hvs3 hi3 hj (by omega) (by omega) hR.und hR.size hpL (Rp.keep hfar hrx (by omega) (by have:=hw.Lw;omega)) ?_ fun a4 w4 d4 hp4 h14 hg4=>⟨hp4,?_⟩)
  ·have h9:(gL (gwEl g cx e (nm.n 0) (nm.n 4) (nm.n 3) (nm.sub 0)) (np + 5)).2 + 1<=a.tmps.size:=hn2
   omega
  ·rw [List.length_append,List.length_append]
   omega
  ·rw [h14,htake]
   have:=hW.trans hg4
   simpa [wMany,List.append_assoc] using this
 ·refine ja_ (h a3 w3 (a3.get 1) ((hp1'.trans (hp2.mono (by omega) (by omega))).trans (hp3.mono (by omega) (by omega))) rfl ?_)
  rw [hlen,List.take_length] at hW
  rw [hlen,<- List.append_assoc]
  exact hW
theorem wty_inl (K0:KW P g av fl nl te) {toff:Option Nat} {fs:Fds} (hfs:WrFds P g av fl nl te fs):WrTy P g av fl nl te (.struct none toff fs):=by
 intro nm cx fx ver B O L m k0 n T off v d bs K E a w hoky hw hc hfl hk hk0 hn hr hlim h
 simp only [okTyW,Bool.and_eq_true,decide_eq_true_eq,beq_iff_eq] at hoky
 obtain ⟨⟨⟨⟨hsl,hT⟩,hfld⟩,hst⟩,hokf⟩:=hoky
 subst hT
 obtain ⟨vv,t,rfl,hrf,ht⟩:=hr
 have hle:=hc.le
 have hn2:(gL (gwFds g { cx with s:=nm.n 0 } fs (nm.sub 0).s++qy_ g { cx with s:=nm.n 0 } (nm.n 3) (nm.n 4)) (n + 3)).2<=a.tmps.size:=hn
 have hup:=ql_ (upL_wfds g fs { cx with s:=nm.n 0 } (nm.sub 0).s) (j4_ g { cx with s:=nm.n 0 } (nm.n 3) (nm.n 4)) (n + 3)
 show LW P (gFieldAddr cx.s (nm.n 0) (nm.n 1) (nm.n 2) :: (gwFds g { cx with s:=nm.n 0 } fs (nm.sub 0).s++qy_ g { cx with s:=nm.n 0 } (nm.n 3) (nm.n 4))) n (Rt K E) a w
 refine qc_ (s_fieldAddr (x:=nm.n 0) (m:=m) (k0:=k0) hw.ss (fldB_ok hfld) (.inl rfl) hle hk (by omega) (by omega) fun a1 hp1 hg1=>?_)
 have hs1:=hp1.size
 have hp1':=hp1.x1 hsl
 show LW P _ (n + 3) (Rt K E) a1 w
 have hw1:=hw.at hc hp1' ((hp1.g1 hsl hc.one).trans hw.s1) hg1 hw.BL
 exact w_st K0 hfs (cx:={ cx with s:=nm.n 0 }) hst hokf hw1 (hc.at (m':=nm.n 0 + 1) ⟨hsl.1,by omega⟩ (by omega) (by omega)) hfl (by omega) (by omega) (by rw [hs1];exact hn2) hrf ht (by simpa [wrTy,V.fields,V.tags] using hlim) fun a' w' d' hp' h1' hg'=>h a' w' d' (hp1'.trans (hp'.mono (by omega) (by omega))) h1' (by simpa [wrTy,V.fields,V.tags] using hg')
theorem wty_opt (K0:KW P g av fl nl te) {q:Nat} {toff:Option Nat} {fs:Fds} (hfs:WrFds P g av fl nl te fs):WrTy P g av fl nl te (.struct (some q) toff fs):=by
 intro nm cx fx ver B O L m k0 n T off v d bs K E a w hoky hw hc hfl hk hk0 hn hr hlim h
 simp only [okTyW,Bool.and_eq_true,decide_eq_true_eq,beq_iff_eq] at hoky
 obtain ⟨⟨⟨⟨⟨hsl,hT⟩,hfld⟩,hptr⟩,hst⟩,hokf⟩:=hoky
 subst hT
 obtain ⟨el,hel⟩:∃ el,P.underlying (nm.n 3)=some (.pointer el):=by
  unfold ptrB at hptr
  split at hptr
  ·rename_i el h;exact ⟨el,h⟩
  ·cases hptr
 have hle:=hc.le
 have h1m:=hc.one
 have hn2:(gL (gwByte g 1 :: (gwFds g { cx with s:=nm.n 0 } fs (nm.sub 0).s++qy_ g { cx with s:=nm.n 0 } (nm.n 4) (nm.n 5))) (n + 4 + 2 + 3)).2<=a.tmps.size:=hn
 have hn3:(gL (gwFds g { cx with s:=nm.n 0 } fs (nm.sub 0).s++qy_ g { cx with s:=nm.n 0 } (nm.n 4) (nm.n 5)) (n + 4 + 2 + 3 + 3)).2<=a.tmps.size:=hn
 have hup:=ql_ (upL_wfds g fs { cx with s:=nm.n 0 } (nm.sub 0).s) (j4_ g { cx with s:=nm.n 0 } (nm.n 4) (nm.n 5)) (n + 4 + 2 + 3 + 3)
 show LW P [gLoad cx.s (nm.n 0) (nm.n 1) (nm.n 2) (nm.n 3),gwNil (nm.n 0) (nm.n 3) (gwByte g 255) (gS (gwByte g 1 :: (gwFds g { cx with s:=nm.n 0 } fs (nm.sub 0).s++qy_ g { cx with s:=nm.n 0 } (nm.n 4) (nm.n 5))))] n (Rt K E) a w
 have hcell:∃ m',w.cell? ⟨B,O + off,none⟩=some (.pointer m'):=by
  rcases hr with ⟨h1,_⟩ | ⟨p,q,vs,t,h1,_⟩
  ·exact ⟨none,h1⟩
  ·exact ⟨_,h1⟩
 obtain ⟨ptr,hcell⟩:=hcell
 refine qc_ (s_load (x:=nm.n 0) (m:=m) (k0:=k0) hw.ss (fldB_ok hfld) hcell (.inl rfl) hle hk (by omega) (by omega) fun a1 hp1 hg1=>?_)
 have hs1:=hp1.size
 have hp1':=hp1.x1 hsl
 have h11:a1.get 1=d:=(hp1.g1 hsl h1m).trans hw.s1
 show LW P [gwNil (nm.n 0) (nm.n 3) (gwByte g 255) (gS (gwByte g 1 :: (gwFds g { cx with s:=nm.n 0 } fs (nm.sub 0).s++qy_ g { cx with s:=nm.n 0 } (nm.n 4) (nm.n 5))))] (n + 4) (Rt K E) a1 w
 refine qc_ ?_
 rw [qt_]
 have htest:∀ (b:Bool),b=ptr.isNone->∀ (X:Act->World->Prop),(∀ a2,Pv 1 m k0 (n + 4) a1 a2->a2.get 1=d->a2.get (nm.n 0)=.pointer ptr->X a2 w) ->
   wpList P [mk (some (n + 4)) (.move (tm (nm.n 0))),mk (some (n + 4 + 1)) (.binOp .eql (nm.n 3) (tm (n + 4)) (.const (.pointer none)) 0)].toArray (Exit.then (fun a' w'=>a'.eval (tm (n + 4 + 1))=.bool b/\X a' w') (Rt (LW P [] ((gS (gwByte g 1 :: (gwFds g { cx with s:=nm.n 0 } fs (nm.sub 0).s++qy_ g { cx with s:=nm.n 0 } (nm.n 4) (nm.n 5)))) (n + 4 + 2 + 3)).2 (Rt K E)) E))
    [mk (some (n + 4)) (.move (tm (nm.n 0))),mk (some (n + 4 + 1)) (.binOp .eql (nm.n 3) (tm (n + 4)) (.const (.pointer none)) 0)] a1 w:=by
  intro b hb X hX
  refine qd_ (wl_ptrNil (m:=ptr) hel (by rw [qb_,gpe (by omega),qb_];exact hg1) (wpList_nil ⟨by rw [qb_,gpe (by simp only [qa_];omega),hb],hX _ ?_ ?_ ?_⟩))
  ·exact ((Pv.refl _ _ _ _ _).put _ (by omega)).put _ (by omega)
  ·rw [gpo (by omega),gpo (by omega)];exact h11
  ·rw [gpo (by omega),gpo (by omega)];exact hg1
 rcases hr with ⟨h1,rfl⟩ | ⟨p,q',vs,t,h1,h2,h3,rfl,h5,h6⟩
 ·rw [h1] at hcell
  obtain rfl:(none:Option Addr)=ptr:=by simpa using hcell
  have hwr:wrTy fx ver (.struct (some q) toff fs) .nul=[255]:=by simp [wrTy,V.isNul]
  rw [hwr] at hlim h
  refine s_ifT (htest true rfl _ fun a2 hp2 h12 hg2=>?_)
  have hs2:=hp2.size
  have e:Rt (LW P [] ((gS (gwByte g 1 :: (gwFds g { cx with s:=nm.n 0 } fs (nm.sub 0).s++qy_ g { cx with s:=nm.n 0 } (nm.n 4) (nm.n 5)))) (n + 4 + 2 + 3)).2 (Rt K E)) E=Exit.then (LW P [] ((gS (gwByte g 1 :: (gwFds g { cx with s:=nm.n 0 } fs (nm.sub 0).s++qy_ g { cx with s:=nm.n 0 } (nm.n 4) (nm.n 5)))) (n + 4 + 2 + 3)).2 (Rt K E)) (Rt K E):=qt_.symm
  show NWP P (gwByte g ((255:Nat):Int) (n + 4 + 2)).1 (Rt _ E) a2 w
  have:=s_wbyte K0 (c:=255) (m:=m) (k0:=k0) (n:=n + 4 + 2) (Q:=Rt K E) (a:=a2) (w:=w) (d:=d) (bs:=bs) (L:=L) (K:=LW P [] ((gS (gwByte g 1 :: (gwFds g { cx with s:=nm.n 0 } fs (nm.sub 0).s++qy_ g { cx with s:=nm.n 0 } (nm.n 4) (nm.n 5)))) (n + 4 + 2 + 3)).2 (Rt K E)) (by omega) h12 hw.dst hw.Lw (by simpa using hlim) hle (by omega) (by omega) (by omega) fun a3 w3 d3 hp3 h13 hg3=>ja_ (h a3 w3 d3 ((hp1'.trans (hp2.mono (Nat.le_refl _) (by omega))).trans (hp3.mono (Nat.le_refl _) (by omega))) h13 hg3)
  rw [qt_] at this
  exact this
 ·rw [h1] at hcell
  obtain rfl:some (⟨p,q',none⟩:Addr)=ptr:=by simpa using hcell
  have hwr:wrTy fx ver (.struct (some q) toff fs) (.st vs t)=[1]++(wrFds fx ver fs vs++j0_ fx t):=by simp [wrTy,V.isNul,V.fields,V.tags]
  rw [hwr] at hlim h
  rw [List.length_append] at hlim
  simp only [List.length_cons,List.length_nil] at hlim
  refine s_ifF (htest false rfl _ fun a2 hp2 h12 hg2=>?_)
  have hs2:=hp2.size
  refine q4_ (qc_ (s_wbyte (m:=nm.n 0 + 1) (k0:=k0) (L:=L) (bs:=bs) (d:=d) K0 (c:=1) (by omega) h12 hw.dst hw.Lw (by omega) (by omega) (by show k0<=n + 4 + 2 + 3;omega) (by show 1 < n + 4 + 2 + 3;omega) (by show n + 4 + 2 + 3 + 3<=_;omega) fun a3 w3 d3 hp3 h13 hg3=>?_))
  have hs3:=hp3.size
  have hg30:a3.get (nm.n 0)=pt p q':=by rw [hp3.get _ (by omega) (.inl (by omega))];exact hg2
  have hp03:Pv 1 m k0 n a a3:=(hp1'.trans (hp2.mono (Nat.le_refl _) (by omega))).trans (hp3.mono (by omega) (by show n<=n + 4 + 2 + 3;omega))
  have hw3:=hw.step hc hp03 h13 hg3
  have hfar:=Gr.far hw.dst hg3
  have hpL:p < L:=by omega
  have hw3':WC { cx with s:=nm.n 0 } fx ver te L p q' d3 (bs++[UInt8.ofNat 1]) a3 w3:=hw3.at (a':=a3) hc (Pv.refl _ _ _ k0 _) h13 hg30 hpL
  refine w_st K0 hfs (cx:={ cx with s:=nm.n 0 }) (L:=L) hst hokf hw3' (hc.at (m':=nm.n 0 + 1) ⟨hsl.1,by omega⟩ (by omega) (by omega)) hfl (by show k0<=n + 4 + 2 + 3 + 3;omega) (by omega) (by rw [hs3,hs2,hs1];exact hn3) (h5.far hfar hpL hw.Lw) (h6.far hfar hpL hw.Lw) (by rw [List.length_append (as:=bs)];simp only [List.length_cons,List.length_nil];omega) fun a' w' d' hp' h1' hg'=>ja_ (h a' w' d' (hp03.trans (hp'.mono (by omega) (by show n<=n + 4 + 2 + 3 + 3;omega))) h1' ?_)
  have:=hg3.trans hg'
  simpa [List.append_assoc] using this
mutual
theorem wr_ty (K0:KW P g av fl nl te):∀ ty:Ty,WrTy P g av fl nl te ty
 | .prim p=>wty_leaf K0 (ty:=.prim p) (x:=fun nm=>nm.l.drop 4) rfl (fun _ _=>rfl) (fun hf m k0 T off nm h=>by
   simp only [okTyW,Bool.and_eq_true,beq_iff_eq,Bool.or_eq_true] at h
   refine ⟨h.1.1.1,h.1.1.2,h.1.2,fun hu=>?_⟩
   obtain rfl:p=.uuid:=by cases p <;> first | rfl | cases hu
   rcases h.2 with h2 | h2
   ·cases h2
   ·have:=h.1.1.1
    simp only [zi_,Bool.and_eq_true] at this
    exact ⟨h2,this.1.1.1⟩)
 | .str nul=>wty_leaf K0 (ty:=.str nul) (x:=fun nm=>nm.l.drop 4) rfl (fun _ _=>rfl) (fun hf m k0 T off nm h=>by
   simp only [okTyW,Bool.and_eq_true,beq_iff_eq] at h
   exact ⟨h.1.1,h.1.2,h.2,fun hu=>by cases hu⟩)
 | .bytes nul=>wty_leaf K0 (ty:=.bytes nul) (x:=fun _=>[]) rfl (fun _ _=>rfl) (fun hf m k0 T off nm h=>by
   simp only [okTyW,Bool.and_eq_true,beq_iff_eq] at h
   exact ⟨h.1.1,h.1.2,h.2,fun hu=>by cases hu⟩)
 | .list _ _ e=>wty_list K0 (wr_el K0 e)
 | .struct none _ fs=>wty_inl K0 (wr_fds K0 fs)
 | .struct (some _) _ fs=>wty_opt K0 (wr_fds K0 fs)
theorem wr_el (K0:KW P g av fl nl te):∀ ty:Ty,WrEl P g av fl nl te ty
 | .prim p=>wel_leaf K0 (ty:=.prim p) rfl (fun _ _ _ _ _=>rfl) (fun hf m k0 E' esz nm h=>by
   simp only [okElW,Bool.and_eq_true,beq_iff_eq,Bool.or_eq_true] at h
   refine ⟨h.1.1.1.1,h.1.1.1.2,h.1.1.2,h.1.2,fun hu=>?_⟩
   obtain rfl:p=.uuid:=by cases p <;> first | rfl | cases hu
   rcases h.2 with h2 | h2
   ·cases h2
   ·have:=h.1.1.1.1
    simp only [zi_,Bool.and_eq_true] at this
    exact ⟨h2,this.1.1.1⟩)
 | .str nul=>wel_leaf K0 (ty:=.str nul) rfl (fun _ _ _ _ _=>rfl) (fun hf m k0 E' esz nm h=>by
   simp only [okElW,Bool.and_eq_true,beq_iff_eq] at h
   exact ⟨h.1.1.1,h.1.1.2,h.1.2,h.2,fun hu=>by cases hu⟩)
 | .bytes nul=>wel_leaf K0 (ty:=.bytes nul) rfl (fun _ _ _ _ _=>rfl) (fun hf m k0 E' esz nm h=>by
   simp only [okElW,Bool.and_eq_true,beq_iff_eq] at h
   exact ⟨h.1.1.1,h.1.1.2,h.1.2,h.2,fun hu=>by cases hu⟩)
 | .list _ _ _=>fun _ _ _ _ _ _ _ _ _ _ _ _ _ _ _ _ _ _ _ _ _ _ _ _ _ _ _ h=>by simp [okElW] at h
 | .struct none _ fs=>wel_struct K0 (wr_fds K0 fs)
 | .struct (some _) _ _=>fun _ _ _ _ _ _ _ _ _ _ _ _ _ _ _ _ _ _ _ _ _ _ _ _ _ _ _ h=>by simp [okElW] at h
theorem wr_fds (K0:KW P g av fl nl te):∀ fs:Fds,WrFds P g av fl nl te fs
 | .nil=>wfds_nil
 | .cons _ _ _ _ _ ty r=>wfds_cons (wr_ty K0 ty) (wr_fds K0 r)
end
end
section
variable {P:Program} {K:Kn}
def ifaceB (P:Program) (T:Nat):Bool:=match P.underlying T with | some (.interface _)=>true | _=>false
theorem ifaceB_ok {T:Nat} (h:ifaceB P T=true):∃ ms,P.underlying T=some (.interface ms):=by
 unfold ifaceB at h
 split at h
 ·rename_i ms hms
  exact ⟨ms,hms⟩
 ·cases h
def twoB (P:Program) (T:Nat):Bool:=
 match P.underlying T with
 | some (.struct fs)=>(match fs.toList with | [f0,f1]=>f0.offset == 0 && f1.offset == 1 && varB P f0.type false 1 && varB P f1.type false 1 | _=>false)
 | _=>false
theorem twoB_ok {T:Nat} (h:twoB P T=true):∃ fs f0 f1,P.underlying T=some (.struct fs)/\fs.toList=[f0,f1]/\f0.offset=0/\f1.offset=1/\j6_ P f0.type false 1/\j6_ P f1.type false 1:=by
 unfold twoB at h
 split at h
 ·rename_i fs hfs
  split at h
  ·rename_i f0 f1 hl
   simp only [Bool.and_eq_true,beq_iff_eq] at h
   exact ⟨fs,f0,f1,hfs,hl,h.1.1.1,h.1.1.2,varB_ok h.1.2,varB_ok h.2⟩
  ·cases h
 ·cases h
def octB (P:Program) (S U:Nat):Bool:=
 (match P.underlying S with | some (.slice e)=>e == U | _=>false) && (match P.info? U with | some i=>(match i.zero with | some z=>i.size == 1 && i.bytes == 1 && z.cells.size == 1 | none=>false) | none=>false)
theorem octB_ok {S U:Nat} (h:octB P S U=true):OctT P S U:=by
 simp only [octB,Bool.and_eq_true] at h
 obtain ⟨h1,h2⟩:=h
 refine ⟨?_,?_⟩
 ·split at h1
  ·rename_i e he
   rw [he,beq_iff_eq.1 h1]
  ·cases h1
 ·split at h2
  ·rename_i i hi
   split at h2
   ·rename_i z hz
    simp only [Bool.and_eq_true,beq_iff_eq] at h2
    exact ⟨i,z,hi,hz,h2.1.1,h2.1.2,h2.2⟩
   ·cases h2
  ·cases h2
def oneF (P:Program) (T:Nat):Option Field:=match P.underlying T with | some (.struct fs)=>(match fs.toList with | [f]=>some f | _=>none) | _=>none
theorem oneF_ok {T:Nat} {f:Field} (h:oneF P T=some f):P.underlying T=some (.struct #[f]):=by
 unfold oneF at h
 split at h
 ·rename_i fs hfs
  split at h
  ·rename_i f' hl
   obtain rfl:=Option.some.inj h
   rw [hfs,<- hl]
  ·cases h
 ·cases h
def AppOk (P:Program) (te:Nat) (p:PF) (f:Nat):Prop:=
 Ent P f/\∀ (w:World) (L:Nat) (cs:List Value) (val:Value) (v:V),LRp w (fun k=>L<=k) (pfTy p) cs v->ValOf p cs val->ApL P te f val (p.wr v) w L
theorem valOf_ne {p:PF} (hp:p ≠ .uuid) {x val:Value} (h:ValOf p [x] val):val=x:=by
 unfold ValOf at h
 rw [if_neg hp] at h
 simpa using h.symm
theorem app_num {p:PF} {k:IntKind} {m f:Nat} (hp:∀ w X cs v,LRp w X (pfTy p) cs v->∃ x:Int,cs=[.int k x]/\v=.n x/\(p=.u16->0<=x/\x < 65536)) (hu:p ≠ .uuid) (hw:∀ x,p.wr (.n x)=be m x) (hE:Ent P f) (hc:∀ (x:Int) (w:World),(p=.u16->0<=x/\x < 65536)->ApC P K.tU8 f (.int k x) (be m x) w):AppOk P K.tU8 p f:=by
 refine ⟨hE,fun w L cs val v hl hv=>?_⟩
 obtain ⟨x,rfl,rfl,hx⟩:=hp _ _ _ _ hl
 obtain rfl:val=.int k x:=valOf_ne hu hv
 rw [hw]
 exact hc x w hx L
theorem app_i8 (wt:WT P K) (hF:j2_ K.tI8=true) {f ntmps:Nat} (hfn:FnIs P f ntmps [4] (cAI8 K)) (hnt:10<=ntmps):AppOk P K.tU8 .i8 f:=
 app_num (k:=.i8) (m:=1) (fun w X cs v h=>by obtain ⟨x,h1,h2,_⟩:=h;exact ⟨x,h1,h2,fun h=>by cases h⟩) (by simp) (fun _=>rfl) hfn.ent fun x w _=>ap_i8 wt hF hfn hnt x w
theorem app_u16 (wt:WT P K) (hF:j2_ K.tU16=true) {f ntmps:Nat} (hfn:FnIs P f ntmps [4] (cAU16 K)) (hnt:13<=ntmps):AppOk P K.tU8 .u16 f:=
 app_num (k:=.u16) (m:=2) (fun w X cs v h=>by
  obtain ⟨x,h1,h2,h3⟩:=h
  refine ⟨x,h1,h2,fun _=>?_⟩
  simp [Prim.fits] at h3
  omega) (by simp) (fun _=>rfl) hfn.ent fun x w h=>ap_u16 wt hF hfn hnt (h rfl) w
theorem app_i16 (wt:WT P K) (hF:j2_ K.tU16=true) {f f2 ntmps nt2:Nat} (hfn2:FnIs P f2 nt2 [4] (cAU16 K)) (hnt2:13<=nt2) (hfn:FnIs P f ntmps [4] (cACv K.tI16 K.tU16 f2)) (hnt:9<=ntmps):AppOk P K.tU8 .i16 f:=
 app_num (k:=.i16) (m:=2) (fun w X cs v h=>by obtain ⟨x,h1,h2,_⟩:=h;exact ⟨x,h1,h2,fun h=>by cases h⟩) (by simp) (fun _=>rfl) hfn.ent fun x w _=>ap_i16 wt hF hfn2 hnt2 hfn hnt x w
theorem app_i32 (wt:WT P K) {f f2 ntmps nt2:Nat} (hfn2:FnIs P f2 nt2 [4] (cAU32 K)) (hnt2:19<=nt2) (hfn:FnIs P f ntmps [4] (cACv K.tI32 K.tU32 f2)) (hnt:9<=ntmps):AppOk P K.tU8 .i32 f:=
 app_num (k:=.i32) (m:=4) (fun w X cs v h=>by obtain ⟨x,h1,h2,_⟩:=h;exact ⟨x,h1,h2,fun h=>by cases h⟩) (by simp) (fun _=>rfl) hfn.ent fun x w _=>ap_i32 wt hfn2 hnt2 hfn hnt x w
theorem app_str (wt:WT P K) {f f2 ntmps:Nat} (hA:AppOk P K.tU8 .i16 f2) (hc:∀ (x:Int) (w:World),ApC P K.tU8 f2 (.int .i16 x) (be 2 x) w) (hfn:FnIs P f ntmps [4] (cAStr K K.tStr K.tI16 f2)) (hnt:13<=ntmps):AppOk P K.tU8 .str f:=by
 refine ⟨hfn.ent,fun w L cs val v hl hv=>?_⟩
 obtain ⟨l,rfl,rfl,_⟩:=hl
 obtain rfl:val=.string ⟨l.toArray⟩:=valOf_ne (by simp) hv
 have h:=hc (IntKind.i16.wrap (l.length:Int)) w
 rw [be_wrap (.inr (.inl ⟨.inl rfl,rfl⟩))] at h
 exact ap_txt wt wt.dI16 (txt_str wt.dStr l L w) hA.1 h hfn hnt
theorem app_cstr (wt:WT P K) {f f2 ntmps:Nat} (hE:Ent P f2) (hc:∀ x w,x < 4294967296->ApC P K.tU8 f2 (.int .u32 (x:Nat)) (uvar x) w) (hfn:FnIs P f ntmps [4] (cACStr K K.tStr f2)) (hnt:14<=ntmps):AppOk P K.tU8 .cstr f:=by
 refine ⟨hfn.ent,fun w L cs val v hl hv=>?_⟩
 obtain ⟨l,rfl,rfl,_⟩:=hl
 obtain rfl:val=.string ⟨l.toArray⟩:=valOf_ne (by simp) hv
 exact ap_ctxt wt (txt_str wt.dStr l L w) hE hc hfn hnt
end
def cNewPtr (T f:Nat):Code:=sq [rg [mk (some 0) (.assign (.const (.pointer none)))],rg [mk (some 1) (.alloc T)],rg [cl (some 2) f [tm 1]],rg [mk (some 0) (.assign (tm 1))],.ret]
def cMaxV (k:Int):Code:=sq [rg [mk (some 2) (.assign (ki .i16 0))],rg [mk (some 2) (.assign (ki .i16 k))],.ret]
def cMax (tI16 tInt f1 f2:Nat):Code:=sq [rg [mk (some 0) (.assign (ki .i64 0))],rg [cl (some 1) f1 [],cl (some 2) f2 [tm 1],mk (some 3) (.convert tI16 tInt (tm 2)),mk (some 0) (.assign (tm 3))],.ret]
def cSetV (T tI16:Nat):Code:=rg [mk (some 4) (.move (tm 0)),mk (some 5) (.move (tm 1)),mk (some 6) (.nilCheck (tm 4)),mk (some 7) (.fieldAddr T (tm 6) 0),mk none (.store tI16 (tm 7) (tm 5))]
def cRdF (f:Nat):Code:=sq [rg [mk (some 4) (.assign (.const .nilIface))],rg [mk (some 5) (.move (tm 0)),mk (some 6) (.move (tm 1)),cl (some 7) f [tm 5,tm 6,.const (.bool false)],mk (some 4) (.assign (tm 7))],.ret]
def cAgain (tI16 tInt tSl tErr f1 f2 f3 f4:Nat):Code:=sq [rg [mk (some 4) (.assign (.const nilS)),mk (some 5) (.assign (.const (.bool false)))],rg [cl (some 7) f1 [],mk (some 6) (.assign (tm 7))],
 rg [mk (some 8) (.move (tm 6)),mk (some 9) (.move (tm 0)),mk (some 10) (.convert tInt tI16 (tm 9)),cl (some 11) f2 [tm 8,tm 10]],
 .seq (rg [mk (some 12) (.move (tm 6)),mk (some 13) (.move (tm 1)),bi (some 14) .append [.const nilS,tm 13] [tSl,tSl] tSl,cl (some 15) f3 [tm 12,tm 14],mk (some 16) (.binOp .neq tErr (tm 15) (.const .nilIface) 0)])
  (.cond (tm 16) (.seq (rg [mk (some 4) (.assign (.const nilS)),mk (some 5) (.assign (.const (.bool false)))]) .ret) .skip),
 rg [mk (some 17) (.move (tm 6)),cl (some 18) f4 [tm 17,.const nilS],mk (some 4) (.assign (tm 18)),mk (some 5) (.assign (.const (.bool true)))],.ret]
def cVer (tU8 tInt:Nat):Code:=sq [rg [mk (some 4) (.assign (ki .i64 0))],rg [mk (some 5) (.move (tm 0)),mk (some 6) (.convert tU8 tInt (tm 5)),mk (some 7) (.move (tm 1)),mk (some 8) (.binOp .add tInt (tm 7) (ki .i64 1) 0),mk (some 9) (.binOp .rem tInt (tm 6) (tm 8) 0),mk (some 4) (.assign (tm 9))],.ret]
def sameOps (tSl tU8:Nat):List Oper:=[mk (some 16) (.move (tm 0)),mk (some 17) (.move (tm 5)),mk (some 18) (.indexAddr tSl (tm 16) (tm 17)),mk (some 19) (.load tU8 (tm 18)),mk (some 20) (.move (tm 1)),mk (some 21) (.move (tm 5)),mk (some 22) (.indexAddr tSl (tm 20) (tm 21)),mk (some 23) (.load tU8 (tm 22)),mk (some 24) (.binOp .neq tU8 (tm 19) (tm 23) 0)]
def retB (b:Bool):Code:=.seq (rg [mk (some 4) (.assign (.const (.bool b)))]) .ret
def cSame (tSl tU8 tInt:Nat):Code:=sq [rg [mk (some 4) (.assign (.const (.bool false)))],
 .seq (rg [mk (some 6) (.move (tm 0)),bi (some 7) .len [tm 6] [tSl] tInt,mk (some 8) (.move (tm 1)),bi (some 9) .len [tm 8] [tSl] tInt,mk (some 10) (.binOp .neq tInt (tm 7) (tm 9) 0)]) (.cond (tm 10) (retB false) .skip),
 .seq (rg [mk (some 11) (.move (tm 0)),bi (some 12) .len [tm 11] [tSl] tInt,mk (some 13) (.move (ki .i64 0))])
  (.block 0 (.loop (.seq (rg [mk (some 14) (.binOp .lss tInt (tm 13) (tm 12) 0)]) (.seq (.cond (tm 14) .skip (.exit 0))
   (.seq (.block 1 (.seq (rg [mk (some 15) (.move (tm 13)),mk (some 5) (.assign (tm 15))]) (.seq (.region 1 (sameOps tSl tU8).toArray true) (.cond (tm 24) (retB false) .skip))))
    (rg [mk (some 25) (.binOp .add tInt (tm 13) (ki .i64 1) 0),mk (some 13) (.move (tm 25))])))))),
 rg [mk (some 4) (.assign (.const (.bool true)))],.ret]
def lenGt (tSl tInt n:Nat) (k:Int):Code:=.seq (rg [mk (some n) (.move (tm 1)),bi (some (n + 1)) .len [tm n] [tSl] tInt,mk (some (n + 2)) (.binOp .gtr tInt (tm (n + 1)) (ki .i64 k) 0)]) (.cond (tm (n + 2)) (retB true) .skip)
def callAg (fV fA n s x y:Nat):Code:=rg [mk (some (n + 1)) (.move (tm 0)),mk (some (n + 2)) (.move (tm 5)),cl (some (n + 3)) fV [tm (n + 1),tm (n + 2)],mk (some (n + 4)) (.move (tm s)),cl (some (n + 5)) fA [tm (n + 3),tm (n + 4)],mk (some n) (.move (tm (n + 5))),
 mk (some (n + 6)) (.extract (tm n) 0),mk (some (n + 7)) (.extract (tm n) 1),mk (some x) (.assign (tm (n + 6))),mk (some y) (.assign (tm (n + 7)))]
def cAny (tSl tInt tB fM fV fA fS:Nat):Code:=sq [rg [mk (some 4) (.assign (.const (.bool false)))],lenGt tSl tInt 10 2147483647,rg [cl (some 13) fM [],mk (some 5) (.assign (tm 13))],
 .seq (rg [mk (some 14) (.move (tm 5)),mk (some 15) (.binOp .lss tInt (tm 14) (ki .i64 0) 0)]) (.cond (tm 15) (retB false) .skip),
 lenGt tSl tInt 16 1000,callAg fV fA 19 1 6 7,
 .seq (rg [mk (some 27) (.move (tm 7)),mk (some 28) (.unOp .not tB (tm 27))]) (.cond (tm 28) (retB true) .skip),
 callAg fV fA 29 6 8 9,
 rg [mk (some 37) (.move (tm 9)), mk (some 38) (.move (tm 37)), gd 39 (.move (tm 6)) 1 true, gd 40 (.move (tm 8)) 1 true, ⟨some 41, .call ⟨.value (.func fS), #[tm 39, tm 40], #[]⟩, 0, "", #[], some (1, true)⟩,
  mk (some 42) (.pick (tm 38) (tm 41) (.const (.bool false))),mk (some 4) (.assign (tm 42))],.ret]
end Go.Proofs.YtdplnemfjedocabDoor.Kx
