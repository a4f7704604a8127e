/-
  PLAIN LAWS AND CONTRACTS of messages, part 10 of 15: how readers and writers are printed, what they do, what the reference writes, and that what is written is read as the same. Nothing of a statement stands here.
-/
import Derived.Test.YtlmanancakaapaaGreatDoorK1
import Derived.Test.YtlmanancakaapaaGreatDoorK3
import Derived.Test.YtlmanancakaapaaGreatDoorK4
import Derived.Test.YtlmanancakaapaaGreatDoorK7
import Derived.Test.YtlmanancakaapaaGreatDoorK8
import Derived.Test.YtlmanancakaapaaGreatDoorK9
import Derived.ChangeKeysEq

namespace Go.Proofs.YtlmanancakaapaaGreatDoor.Kx
open Go
section
variable {P:Program} {K:Kn}
theorem wl_shr {ops:Array Oper} {Q:Exit->Act->World->Prop} {r:List Oper} {a:Act} {w:World} {d:Option Nat} {T:Nat} {y:Operand} {k:IntKind} {x:Int} {s:Nat} (hy:a.eval y=.int k x) (hs:s<=k.bits)
  (h:wpList P ops Q r (a.put d (.int k (x / 2 ^ s))) w):wpList P ops Q (mk d (.binOp .shr T y (ki .u64 s) 0) :: r) a w:=by
 refine qn_ (w':=w) ?_ h
 have e2:a.eval (ki .u64 s)=.int .u64 s:=rfl
 have hrun:=run_shr (P:=P) (k:=k) (A:=T) (x:=x) hs w
 simp [execOp,mk,hy,e2,eqGuard,hrun]
theorem wl_index {ops:Array Oper} {Q:Exit->Act->World->Prop} {r:List Oper} {a:Act} {w:World} {d:Option Nat} {T:Nat} {y:Operand} {l:List UInt8} {k:IntKind} {i:Nat} {b:UInt8} (hT:P.underlying T=some .string) (hy:a.eval y=.int k i) (hi:l[i]?=some b)
  (h:wpList P ops Q r (a.put d (.int .u8 (b.toNat:Int))) w):wpList P ops Q (mk d (.index T (.const (strV l)) y) :: r) a w:=by
 refine qn_ (w':=w) ?_ h
 have e2:a.eval (.const (strV l))=.string ⟨l.toArray⟩:=rfl
 have e3:(⟨l.toArray⟩:ByteArray)[i]?=some b:=by
  have hlt:i < l.length:=(List.getElem?_eq_some_iff.1 hi).1
  have hb:=(List.getElem?_eq_some_iff.1 hi).2
  rw [getElem?_pos _ i (by simpa [ByteArray.size] using hlt)]
  congr 1
 simp [execOp,mk,hy,e2,Instr.index,asIntOf,run_underlying hT,e3]
theorem len8_get {y:Nat} (h:y < 256):len8[y]?=some (len8.getD y 0):=by
 have hl:len8.length=256:=by simp [len8]
 rw [List.getD_eq_getElem?_getD,List.getElem?_eq_getElem (by omega)]
 rfl
theorem uvTab_get {y:Nat} (h:y < 256):uvTab[y]?=some (uvTab.getD y 0):=by
 have hl:uvTab.length=256:=by simp [uvTab]
 rw [List.getD_eq_getElem?_getD,List.getElem?_eq_getElem (by omega)]
 rfl
theorem wrap_small {k:IntKind} {m:Nat} (h:m < 128):k.wrap (m:Int)=m:=by
 cases k <;> simp [IntKind.wrap,IntKind.bits,IntKind.signed] <;> omega
theorem wrap_u8 {m:Nat} (h:m < 256):IntKind.u8.wrap (m:Int)=m:=by
 simp [IntKind.wrap,IntKind.bits,IntKind.signed];omega
theorem u8_i64 (b:UInt8):IntKind.i64.wrap (b.toNat:Int)=(b.toNat:Int):=by
 have:=b.toNat_lt
 simp [IntKind.wrap,IntKind.bits,IntKind.signed];omega
theorem run_add {k:IntKind} {A:Nat} {x y:Int} (w:World):(binOp .add A (.int k x) (.int k y)).run P w=.ok (.int k (k.wrap (x + y))) w:=by simp [binOp,Op.intArith]
theorem len32_calls (wt:WT P K) {tU f ntmps:Nat} (hU:P.underlying tU=some (.int .u32)) (hfn:FnIs P f ntmps [2] (cLen32 K tU)) (hnt:19<=ntmps) {x:Nat} (hx:x < 4294967296) (w:World) :
  Calls P f #[.int .u32 x] w fun e w'=>e=.returned (.int .i64 (l32 x:Nat))/\Keeps (fun _=>False) w w':=by
 refine calls1 wt.mixed hfn (by omega) fun a h0 hs hd=>?_
 refine qc_ (qj_ (qg_ (wpList_nil ?_)))
 have g0:(a.put (some 2) (.int .i64 0)).get 0=.int .u32 x:=by rw [gpo (by omega)];exact h0
 have g2:(a.put (some 2) (.int .i64 0)).get 2=.int .i64 0:=gpe (by omega)
 have gs:(a.put (some 2) (.int .i64 0)).tmps.size=ntmps:=by rw [qa_];exact hs
 have gd:(a.put (some 2) (.int .i64 0)).defers=[]:=by rw [qf_];exact hd
 show LW P _ 3 _ (a.put (some 2) (.int .i64 0)) w
 generalize a.put (some 2) (.int .i64 0)=a at g0 g2 gs gd ⊢
 have first:∀ (l:List GC) (Q:Exit->Act->World->Prop),(∀ a',a'.get 0=.int .u32 ((l32a x).1:Nat)->a'.get 2=.int .i64 ((l32a x).2:Nat)->a'.tmps.size=ntmps->a'.defers=[]->LW P l 7 Q a' w) ->
   LW P (gIf 1 2 (fun n=>[mk (some n) (.move (tm 0)),mk (some (n + 1)) (.binOp .geq tU (tm n) (ki .u32 65536) 0)])
    (gS [qu_ 2 fun n=>[mk (some n) (.move (tm 0)),mk (some (n + 1)) (.binOp .shr tU (tm n) (ki .u64 16) 0),mk (some 0) (.assign (tm (n + 1)))],ji_ 2 (.int .i64 16)]) jk_ :: l) 3 Q a w:=by
  intro l Q h
  by_cases c:65536<=x
  ·refine qc_ (z3_ (qd_ ?_))
   rw [qb_,g0]
   refine q9_ (b:=true) (p:=x) (q:=65536) (k:=.u32) (by rw [qb_,gpe (by omega)]) rfl (.inl ⟨rfl,by simp;omega⟩) (wpList_nil ⟨by rw [qb_,gpe (by simp only [qa_];omega)],?_⟩)
   refine q2_ (qc_ (qj_ (qd_ ?_)))
   rw [qb_,gpo (by omega),gpo (by omega),g0]
   refine wl_shr (k:=.u32) (x:=x) (s:=16) (by rw [qb_,gpe (by simp only [qa_];omega)]) (by decide) (qg_ (wpList_nil ?_))
   rw [qb_,gpe (by simp only [qa_];omega)]
   refine qc_ (qj_ (qg_ (wpList_nil (q0_ (h _ ?_ ?_ ?_ ?_)))))
   ·rw [gpo (by omega),gpe (by simp only [qa_];omega)]
    simp only [l32a,if_pos c]
    simp
   ·rw [gpe (by simp only [qa_];omega)]
    simp only [l32a,if_pos c]
    rfl
   ·simp only [qa_];exact gs
   ·simp only [qf_];exact gd
  ·refine qc_ (z2_ (qd_ ?_))
   rw [qb_,g0]
   refine q9_ (b:=false) (p:=x) (q:=65536) (k:=.u32) (by rw [qb_,gpe (by omega)]) rfl (.inl ⟨rfl,by simp;omega⟩) (wpList_nil ⟨by rw [qb_,gpe (by simp only [qa_];omega)],.skip (h _ ?_ ?_ ?_ ?_)⟩)
   ·rw [gpo (by omega),gpo (by omega),g0]
    simp only [l32a,if_neg c]
   ·rw [gpo (by omega),gpo (by omega),g2]
    simp only [l32a,if_neg c]
    rfl
   ·simp only [qa_];exact gs
   ·simp only [qf_];exact gd
 refine first _ _ fun a g0 g2 gs gd=>?_
 generalize hp:l32a x=p at g0 g2
 have hp1:p.1 < 65536:=by rw [<- hp];simp only [l32a];split <;> simp <;> omega
 have hp2:p.2<=16:=by rw [<- hp];simp only [l32a];split <;> simp
 have second:∀ (l:List GC) (Q:Exit->Act->World->Prop),(∀ a',a'.get 0=.int .u32 ((l32b p).1:Nat)->a'.get 2=.int .i64 ((l32b p).2:Nat)->a'.tmps.size=ntmps->a'.defers=[]->LW P l 13 Q a' w) ->
   LW P (gIf 1 2 (fun n=>[mk (some n) (.move (tm 0)),mk (some (n + 1)) (.binOp .geq tU (tm n) (ki .u32 256) 0)])
    (gS [qu_ 2 fun n=>[mk (some n) (.move (tm 0)),mk (some (n + 1)) (.binOp .shr tU (tm n) (ki .u64 8) 0),mk (some 0) (.assign (tm (n + 1)))],
     qu_ 2 fun n=>[mk (some n) (.move (tm 2)),mk (some (n + 1)) (.binOp .add K.tInt (tm n) (ki .i64 8) 0),mk (some 2) (.assign (tm (n + 1)))]]) jk_ :: l) 7 Q a w:=by
  intro l Q h
  by_cases c:256<=p.1
  ·refine qc_ (z3_ (qd_ ?_))
   rw [qb_,g0]
   refine q9_ (b:=true) (p:=p.1) (q:=256) (k:=.u32) (by rw [qb_,gpe (by omega)]) rfl (.inl ⟨rfl,by simp;omega⟩) (wpList_nil ⟨by rw [qb_,gpe (by simp only [qa_];omega)],?_⟩)
   refine q2_ (qc_ (qj_ (qd_ ?_)))
   rw [qb_,gpo (by omega),gpo (by omega),g0]
   refine wl_shr (k:=.u32) (x:=p.1) (s:=8) (by rw [qb_,gpe (by simp only [qa_];omega)]) (by decide) (qg_ (wpList_nil ?_))
   rw [qb_,gpe (by simp only [qa_];omega)]
   refine qc_ (qj_ (qd_ ?_))
   rw [qb_,gpo (by omega),gpo (by first | omega | simp [qu_]),gpo (by first | omega | simp [qu_]),gpo (by omega),gpo (by omega),g2]
   refine zk_ (k:=.i64) (m:=p.2) (n:=8) (by rw [qb_,gpe (by simp only [qa_];first | omega | (simp [qu_];omega))]) rfl (by simp) (run_add w) (qg_ (wpList_nil (q0_ (h _ ?_ ?_ ?_ ?_))))
   ·rw [gpo (by omega),gpo (by first | omega | simp [qu_]),gpo (by first | omega | simp [qu_]),gpe (by simp only [qa_];omega)]
    simp only [l32b,if_pos c]
    simp
   ·rw [gpe (by simp only [qa_];omega),qb_,gpe (by simp only [qa_];first | omega | (simp [qu_];omega))]
    simp only [l32b,if_pos c]
    have:((p.2:Int) + 8)=((p.2 + 8:Nat):Int):=by omega
    rw [this,wrap_small (by omega)]
   ·simp only [qa_];exact gs
   ·simp only [qf_];exact gd
  ·refine qc_ (z2_ (qd_ ?_))
   rw [qb_,g0]
   refine q9_ (b:=false) (p:=p.1) (q:=256) (k:=.u32) (by rw [qb_,gpe (by omega)]) rfl (.inl ⟨rfl,by simp;omega⟩) (wpList_nil ⟨by rw [qb_,gpe (by simp only [qa_];omega)],.skip (h _ ?_ ?_ ?_ ?_)⟩)
   ·rw [gpo (by omega),gpo (by omega),g0]
    simp only [l32b,if_neg c]
   ·rw [gpo (by omega),gpo (by omega),g2]
    simp only [l32b,if_neg c]
   ·simp only [qa_];exact gs
   ·simp only [qf_];exact gd
 refine second _ _ fun a g0 g2 gs gd=>?_
 have hq1:(l32b p).1 < 256:=by simp only [l32b];split <;> omega
 have hq2:(l32b p).2<=24:=by simp only [l32b];split <;> (try dsimp only) <;> omega
 have hlx:l32 x=(l32b p).2 + (len8.getD (l32b p).1 0).toNat:=by simp only [l32,hp]
 have h8:=(len8_ok _ hq1).1
 rw [hlx]
 generalize l32b p=q at g0 g2 hq1 hq2 h8 ⊢
 refine qc_ (qj_ (qd_ (qd_ ?_)))
 rw [qb_,g2,qb_,gpo (by omega),g0]
 refine qw_ (k:=.u32) (k':=.u8) (m:=q.1) (by rw [qb_,gpe (by simp only [qa_];omega)]) hU wt.dU8 ?_
 rw [wrap_u8 hq1]
 refine wl_index wt.dStr (by rw [qb_,gpe (by simp only [qa_];omega)]) (len8_get hq1) ?_
 refine qw_ (k:=.u8) (k':=.i64) (m:=((len8.getD q.1 0).toNat:Int)) (by rw [qb_,gpe (by simp only [qa_];omega)]) wt.dU8 wt.dInt ?_
 rw [u8_i64]
 refine zk_ (k:=.i64) (m:=q.2) (n:=((len8.getD q.1 0).toNat:Int)) ?_ ?_ (by simp) (run_add w) ?_
 ·rw [qb_,gpo (by omega),gpo (by omega),gpo (by omega),gpo (by omega),gpe (by omega)]
 ·rw [qb_,gpe (by simp only [qa_];omega)]
 rw [show ((q.2:Int) + ((len8.getD q.1 0).toNat:Int))=((q.2 + (len8.getD q.1 0).toNat:Nat):Int) by omega,wrap_small (by omega)]
 refine qg_ (wpList_nil (qc_ (.ret ?_)))
 rw [qb_,gpe (by simp only [qa_];omega)]
 exact ⟨by simp only [qf_];exact gd,by rw [gpe (by simp only [qa_];omega)],Keeps.refl _ _⟩
theorem uvLen_calls (wt:WT P K) {tU f f2 ntmps nt2:Nat} (hU:P.underlying tU=some (.int .u32)) (hfn2:FnIs P f2 nt2 [2] (cLen32 K tU)) (hnt2:19<=nt2) (hfn:FnIs P f ntmps [2] (cUvLen K f2)) (hnt:8<=ntmps) {x:Nat} (hx:x < 4294967296) (w:World) :
  Calls P f #[.int .u32 x] w fun e w'=>e=.returned (.int .i64 (uvLen x:Nat))/\Keeps (fun _=>False) w w':=by
 obtain ⟨hl,hu⟩:=uv_l32 hx
 refine calls1 wt.mixed hfn (by omega) fun a h0 hs hd=>?_
 refine qc_ (qj_ (qg_ (wpList_nil ?_)))
 show LW P _ 3 _ (a.put (some 2) (.int .i64 0)) w
 refine qc_ (qj_ (qd_ ?_))
 rw [qb_,gpo (by omega),h0]
 refine qv_ (vs:=#[.int .u32 x]) hfn2.ent (by simp [qb_,gpe (show 3 < (a.put (some 2) (Value.int .i64 0)).tmps.size by rw [qa_];omega)]) (len32_calls wt hU hfn2 hnt2 hx w) fun e w' hR=>⟨_,hR.1,?_⟩
 refine qw_ (k:=.i64) (k':=.u8) (m:=(l32 x:Nat)) (by rw [qb_,gpe (by simp only [qa_];omega)]) wt.dInt wt.dU8 ?_
 rw [wrap_u8 (by omega)]
 refine wl_index wt.dStr (by rw [qb_,gpe (by simp only [qa_];omega)]) (uvTab_get (by omega)) ?_
 refine qw_ (k:=.u8) (k':=.i64) (m:=((uvTab.getD (l32 x) 0).toNat:Int)) (by rw [qb_,gpe (by simp only [qa_];omega)]) wt.dU8 wt.dInt ?_
 rw [u8_i64,hu]
 refine qg_ (wpList_nil (qc_ (.ret ?_)))
 rw [qb_,gpe (by simp only [qa_];omega)]
 exact ⟨by simp only [qf_];exact hd,by rw [gpe (by simp only [qa_];omega)],hR.2⟩
theorem uv_cases (wt:WT P K) {j L:Nat} {x:Int} {d:Value} {bs:Bs} {w:World} {E N:Act->World->Prop} (hx0:0<=x) (hx:x < 2 ^ IntKind.u32.bits) (hd:jh_ w L K.tU8 d bs) (hL:L<=w.heap.size) :
  ∀ (cs:List (Nat × List OE)) (es:List OE) (n:Nat) (a:Act),(∀ p ∈ cs,p.2 ≠ []/\p.2.length<=10/\∀ e ∈ p.2,∀ s,e.1=some s->s<=32)->cs.lookup j=some es->bs.length + es.length<=LIM->6 < n->(uvCases K cs n).2<=a.tmps.size->a.get 0=d->a.get 1=.int .u32 x->a.get 6=.int .i64 j ->
   (∀ a' w' d',a'.defers=a.defers->a'.get 4=d'->Gr L K.tU8 d w d' (bs++j7_ es x) w'->E a' w')->NWP P (uvCases K cs n).1 (Rt N E) a w
 | [],es,n,a,_,h,_,_,_,_,_,_,_=>by cases h
 | (i,es') :: cs,es,n,a,hok,h,hlim,hn,hs,h0,h1,h6,hE=>by
  have hup:∀ (cs:List (Nat × List OE)) (n:Nat),n<=(uvCases K cs n).2:=by
   intro cs
   induction cs with
   | nil=>intro n;exact Nat.le_refl _
   | cons p cs ih=>
    intro n
    obtain ⟨i,es⟩:=p
    have:=ih (gAppO K K.tU32 .u32 es (n + 2)).2
    have h2:(gAppO K K.tU32 .u32 es (n + 2)).2=n + 2 + (3 + oesLen es):=rfl
    simp only [uvCases]
    omega
  have hstep:=hup cs (gAppO K K.tU32 .u32 es' (n + 2)).2
  have h2:(gAppO K K.tU32 .u32 es' (n + 2)).2=n + 2 + (3 + oesLen es'):=rfl
  simp only [uvCases] at hs ⊢
  have hcmp:∀ (b:Bool) (X:Act->World->Prop),b=decide ((j:Int)=(i:Int))->(∀ a',Pv n 0 0 n a a'->a'.get n=.bool b->X a' w)->NWP P (rg [mk (some (n + 1)) (.binOp .eql K.tInt (tm 6) (ki .i64 i) 0),mk (some n) (.assign (tm (n + 1)))]) (Rt X E) a w:=by
   intro b X hb hX
   refine .reg (q9_ (b:=b) (p:=j) (q:=i) (k:=.i64) (by rw [qb_];exact h6) rfl (.inr (.inr (.inr (.inr (.inl ⟨rfl,hb⟩))))) (qg_ (wpList_nil ?_)))
   rw [qb_,gpe (by omega)]
   exact hX _ (((Pv.refl _ _ _ _ _).put _ (.inr (by omega))).put _ (.inl rfl)) (gpe (by rw [qa_];omega))
  by_cases hij:j=i
  ·subst hij
   rw [List.lookup_cons_self] at h
   obtain rfl:=Option.some.inj h
   refine .seq (hcmp true (fun a' w'=>NWP P (.cond (tm n) (gAppO K K.tU32 .u32 es' (n + 2)).1 (uvCases K cs (gAppO K K.tU32 .u32 es' (n + 2)).2).1) (Rt N E) a' w') (by simp) fun a' hp hg=>?_) (fun a' w' hh=>hh) (fun e a w he hq=>by cases e <;> first | exact absurd rfl he | exact hq)
   have hsz:=hp.size
   obtain ⟨o1,o2,o3⟩:=hok _ (List.mem_cons_self ..)
   refine .condT hg (s_appO wt.oct wt.dU32 wt.dU8 (by omega) (by rw [hp.get 0 (by omega) (by omega)];exact h0) (by rw [hp.get 1 (by omega) (by omega)];exact h1) (fun e he=>.inr ⟨.inr (.inl rfl),hx0,hx,o3 e he⟩) o1 o2 (by omega) hd hL hlim fun a'' w' d' hd' h4 hg'=>hE a'' w' d' (hd'.trans hp.defers) h4 hg')
  ·rw [List.lookup_cons,show (j == i)=false by simpa using hij] at h
   refine .seq (hcmp false (fun a' w'=>NWP P (.cond (tm n) (gAppO K K.tU32 .u32 es' (n + 2)).1 (uvCases K cs (gAppO K K.tU32 .u32 es' (n + 2)).2).1) (Rt N E) a' w') (by simp;omega) fun a' hp hg=>?_) (fun a' w' hh=>hh) (fun e a w he hq=>by cases e <;> first | exact absurd rfl he | exact hq)
   have hsz:=hp.size
   exact .condF hg (uv_cases wt hx0 hx hd hL cs es _ a' (fun p hp=>hok p (List.mem_cons_of_mem _ hp)) h hlim (by omega) (by omega) (by rw [hp.get 0 (by omega) (by omega)];exact h0) (by rw [hp.get 1 (by omega) (by omega)];exact h1) (by rw [hp.get 6 (by omega) (by omega)];exact h6)
    fun a'' w' d' hd' h4 hg'=>hE a'' w' d' (hd'.trans hp.defers) h4 hg')
theorem ap_uv (wt:WT P K) {tU f f1 f2 ntmps nt1 nt2:Nat} (hU:P.underlying tU=some (.int .u32)) (hfn2:FnIs P f2 nt2 [2] (cLen32 K tU)) (hnt2:19<=nt2) (hfn1:FnIs P f1 nt1 [2] (cUvLen K f2)) (hnt1:8<=nt1) (hfn:FnIs P f ntmps [4] (cAUv K f1)) (hnt:93<=ntmps)
  {x:Nat} (hx:x < 4294967296) (w:World):ApC P K.tU8 f (.int .u32 x) (uvar x) w:=by
 intro L d bs hd hL hlim
 obtain ⟨es,hes,hval⟩:=uvar_es hx
 refine calls2s wt.mixed hfn (by omega) fun a h0 h1 hs hdf=>?_
 refine qc_ (q2_ (qc_ (qj_ (qd_ ?_))))
 rw [qb_,h1]
 refine qv_ (vs:=#[.int .u32 x]) hfn1.ent (by simp [qb_,gpe (show 5 < a.tmps.size by omega)]) (uvLen_calls wt hU hfn2 hnt2 hfn1 hnt1 hx w) fun e w1 hR=>⟨_,hR.1,wpList_nil ?_⟩
 refine qc_ (.block ?_)
 have hlen:(j7_ es x).length=es.length:=by simp [j7_]
 refine .mono (uv_cases (E:=fun a' w'=>a'.defers=[]/\∃ d',.returned (a'.get 4)=Ending.returned d'/\Gr L K.tU8 d w d' (bs++uvar x) w') (N:=fun _ _=>False) wt (j:=uvLen x) (x:=x) (by omega) (by simp [IntKind.bits];omega) (hd.keep hR.2 fun _ _ h=>h) (by have:=hR.2.size;omega) uvEs es 7 _ (by decide) hes (by rw [<- hlen,hval];exact hlim) (by omega) (by simp only [qa_];rw [hs,show (uvCases K uvEs 7).2=92 from rfl];omega)
  (by rw [gpo (by omega),gpo (by omega)];exact h0) (by rw [gpo (by omega),gpo (by omega)];exact h1) (gpe (by simp only [qa_];omega)) fun a' w' d' hd' h4 hg=>⟨?_,d',by rw [h4],?_⟩) fun e a w hq=>?_
 ·rw [hd'];simp only [qf_];exact hdf
 ·rw [<- hval];exact Gr.pre hR.2 (fun _ _ h=>h) hg
 ·cases e <;> first | exact hq | exact hq.elim
end
section
variable {P:Program} {K:Kn}
theorem wl_ptrNil {ops:Array Oper} {Q:Exit->Act->World->Prop} {l:List Oper} {a:Act} {w:World} {d:Option Nat} {tP el:Nat} {x:Operand} {m:Option Addr} (hM:P.underlying tP=some (.pointer el)) (hx:a.eval x=.pointer m) (h:wpList P ops Q l (a.put d (.bool m.isNone)) w) :
  wpList P ops Q (mk d (.binOp .eql tP x (.const (.pointer none)) 0) :: l) a w:=by
 refine qn_ ?_ h
 have hc:a.eval (.const (.pointer none))=.pointer none:=rfl
 have he:(eqGuard .eql tP x (.const (.pointer none)) (.pointer m) (.pointer none)).run P w=.ok () w:=by simp [eqGuard]
 have hr:(binOp .eql tP (.pointer m) (.pointer none)).run P w=.ok (.bool m.isNone) w:=by
  have h1:(Op.equal tP (.pointer m) (.pointer none)).run P w=.ok m.isNone w:=by
   cases m with
   | none=>exact (show (Op.equalIn (9999 + 1) tP (.pointer none) (.pointer none)).run P w=_ from by
     have:∀ d:Nat,(Op.equalIn (d + 1) tP (.pointer none) (.pointer none)).run P w=.ok true w:=fun d=>by simp [Op.equalIn,run_underlying hM]
     exact this 9999)
   | some r=>exact (show (Op.equalIn (9999 + 1) tP (.pointer (some r)) (.pointer none)).run P w=_ from by
     have:∀ d:Nat,(Op.equalIn (d + 1) tP (.pointer (some r)) (.pointer none)).run P w=.ok false w:=fun d=>by simp [Op.equalIn,run_underlying hM]
     exact this 9999)
  simp [binOp,h1]
 simp [execOp,mk,hx,hc,he,hr]
theorem wl_slNil {ops:Array Oper} {Q:Exit->Act->World->Prop} {l:List Oper} {a:Act} {w:World} {d:Option Nat} {tS el:Nat} {x:Operand} {m:Option Addr} {n c:Nat} (hM:P.underlying tS=some (.slice el)) (hx:a.eval x=.slice m n c) (h:wpList P ops Q l (a.put d (.bool m.isNone)) w) :
  wpList P ops Q (mk d (.binOp .eql tS x (.const (.slice none 0 0)) 0) :: l) a w:=by
 refine qn_ ?_ h
 have hc:a.eval (.const (.slice none 0 0))=.slice none 0 0:=rfl
 have he:(eqGuard .eql tS x (.const (.slice none 0 0)) (.slice m n c) (.slice none 0 0)).run P w=.ok () w:=by simp [eqGuard]
 have hr:(binOp .eql tS (.slice m n c) (.slice none 0 0)).run P w=.ok (.bool m.isNone) w:=by
  have h1:(Op.equal tS (.slice m n c) (.slice none 0 0)).run P w=.ok m.isNone w:=by
   cases m with
   | none=>exact (show (Op.equalIn (9999 + 1) tS (.slice none n c) (.slice none 0 0)).run P w=_ from by
     have:∀ d:Nat,(Op.equalIn (d + 1) tS (.slice none n c) (.slice none 0 0)).run P w=.ok true w:=fun d=>by simp [Op.equalIn,run_underlying hM]
     exact this 9999)
   | some r=>exact (show (Op.equalIn (9999 + 1) tS (.slice (some r) n c) (.slice none 0 0)).run P w=_ from by
     have:∀ d:Nat,(Op.equalIn (d + 1) tS (.slice (some r) n c) (.slice none 0 0)).run P w=.ok false w:=fun d=>by simp [Op.equalIn,run_underlying hM]
     exact this 9999)
  simp [binOp,h1]
 simp [execOp,mk,hx,hc,he,hr]
theorem wl_ptrNe {ops:Array Oper} {Q:Exit->Act->World->Prop} {l:List Oper} {a:Act} {w:World} {d:Option Nat} {tP el:Nat} {x:Operand} {m:Option Addr} (hM:P.underlying tP=some (.pointer el)) (hx:a.eval x=.pointer m) (h:wpList P ops Q l (a.put d (.bool m.isSome)) w) :
  wpList P ops Q (mk d (.binOp .neq tP x (.const (.pointer none)) 0) :: l) a w:=by
 refine qn_ ?_ h
 have hc:a.eval (.const (.pointer none))=.pointer none:=rfl
 have he:(eqGuard .neq tP x (.const (.pointer none)) (.pointer m) (.pointer none)).run P w=.ok () w:=by simp [eqGuard]
 have hr:(binOp .neq tP (.pointer m) (.pointer none)).run P w=.ok (.bool m.isSome) w:=by
  have h1:(Op.equal tP (.pointer m) (.pointer none)).run P w=.ok m.isNone w:=by
   cases m with
   | none=>exact (show (Op.equalIn (9999 + 1) tP (.pointer none) (.pointer none)).run P w=_ from by
     have:∀ d:Nat,(Op.equalIn (d + 1) tP (.pointer none) (.pointer none)).run P w=.ok true w:=fun d=>by simp [Op.equalIn,run_underlying hM]
     exact this 9999)
   | some r=>exact (show (Op.equalIn (9999 + 1) tP (.pointer (some r)) (.pointer none)).run P w=_ from by
     have:∀ d:Nat,(Op.equalIn (d + 1) tP (.pointer (some r)) (.pointer none)).run P w=.ok false w:=fun d=>by simp [Op.equalIn,run_underlying hM]
     exact this 9999)
  cases m <;> simp [binOp,h1]
 simp [execOp,mk,hx,hc,he,hr]
theorem be_wrap {k:IntKind} {m:Nat} (h:(k=.i8/\m=1) \/ ((k=.i16 \/ k=.u16)/\m=2) \/ ((k=.i32 \/ k=.u32)/\m=4) \/ ((k=.i64 \/ k=.u64)/\m=8)) (x:Int):be m (k.wrap x)=be m x:=by
 rw [<- be_mod m (k.wrap x) m (Nat.le_refl _),<- be_mod m x m (Nat.le_refl _)]
 congr 1
 rcases h with ⟨rfl,rfl⟩ | ⟨rfl | rfl,rfl⟩ | ⟨rfl | rfl,rfl⟩ | ⟨rfl | rfl,rfl⟩ <;> simp [IntKind.wrap,IntKind.bits,IntKind.signed] <;> omega
theorem gr_ret {te L:Nat} {d d':Value} {bs enc:Bs} {w w':World} {x:Value} (hx:x=d') (hg:Gr L te d w d' (bs++enc) w'):∃ d',Ending.returned x=Ending.returned d'/\Gr L te d w d' (bs++enc) w':=⟨d',by rw [hx],hg⟩
theorem ap_u16 (wt:WT P K) (hF:za_ K.tU16=true) {f ntmps:Nat} (hfn:FnIs P f ntmps [4] (cAU16 K)) (hnt:13<=ntmps) {x:Int} (hx:0<=x/\x < 65536) (w:World):ApC P K.tU8 f (.int .u16 x) (be 2 x) w:=by
 have h:=ap_oct wt (wt.dU16 hF) hfn (by simp [oesLen,oeLen];omega) (by simp) (by simp) (x:=x) (fun e he=>.inr ⟨.inl rfl,hx.1,by simp [IntKind.bits];omega,fun s hs=>by simp at he;rcases he with rfl | rfl <;> simp at hs;subst hs;decide⟩) w
 rwa [oes2] at h
theorem ap_u32 (wt:WT P K) {f ntmps:Nat} (hfn:FnIs P f ntmps [4] (cAU32 K)) (hnt:19<=ntmps) {x:Int} (hx:0<=x/\x < 4294967296) (w:World):ApC P K.tU8 f (.int .u32 x) (be 4 x) w:=by
 have h:=ap_oct wt wt.dU32 hfn (by simp [oesLen,oeLen];omega) (by simp) (by simp) (x:=x) (fun e he=>.inr ⟨.inr (.inl rfl),hx.1,by simp [IntKind.bits];omega,fun s hs=>by simp at he;rcases he with rfl | rfl | rfl | rfl <;> simp at hs <;> subst hs <;> decide⟩) w
 rwa [oes4] at h
theorem ap_u64 (wt:WT P K) (hF:za_ K.tU64=true) {f ntmps:Nat} (hfn:FnIs P f ntmps [4] (cAU64 K)) (hnt:31<=ntmps) {x:Int} (hx:0<=x/\x < 18446744073709551616) (w:World):ApC P K.tU8 f (.int .u64 x) (be 8 x) w:=by
 have h:=ap_oct wt (wt.dU64 hF) hfn (by simp [oesLen,oeLen];omega) (by simp) (by simp) (x:=x) (fun e he=>.inr ⟨.inr (.inr rfl),hx.1,by simp [IntKind.bits];omega,fun s hs=>by simp at he;rcases he with rfl | rfl | rfl | rfl | rfl | rfl | rfl | rfl <;> simp at hs <;> subst hs <;> decide⟩) w
 rwa [oes8] at h
theorem wrap_range {k:IntKind} (x:Int):(k=.u16->0<=k.wrap x/\k.wrap x < 65536)/\(k=.u32->0<=k.wrap x/\k.wrap x < 4294967296)/\(k=.u64->0<=k.wrap x/\k.wrap x < 18446744073709551616):=by
 refine ⟨?_,?_,?_⟩ <;> (intro h;subst h;simp [IntKind.wrap,IntKind.bits,IntKind.signed];omega)
theorem ap_i16 (wt:WT P K) (hF:za_ K.tU16=true) {f f2 ntmps nt2:Nat} (hfn2:FnIs P f2 nt2 [4] (cAU16 K)) (hnt2:13<=nt2) (hfn:FnIs P f ntmps [4] (cACv K.tI16 K.tU16 f2)) (hnt:9<=ntmps) (x:Int) (w:World):ApC P K.tU8 f (.int .i16 x) (be 2 x) w:=
 ap_cv wt wt.dI16 (wt.dU16 hF) hfn hnt hfn2.ent (be_wrap (k:=.u16) (.inr (.inl ⟨.inr rfl,rfl⟩)) x ▸ ap_u16 wt hF hfn2 hnt2 ((wrap_range x).1 rfl) w)
theorem ap_i32 (wt:WT P K) {f f2 ntmps nt2:Nat} (hfn2:FnIs P f2 nt2 [4] (cAU32 K)) (hnt2:19<=nt2) (hfn:FnIs P f ntmps [4] (cACv K.tI32 K.tU32 f2)) (hnt:9<=ntmps) (x:Int) (w:World):ApC P K.tU8 f (.int .i32 x) (be 4 x) w:=
 ap_cv wt wt.dI32 wt.dU32 hfn hnt hfn2.ent (be_wrap (k:=.u32) (.inr (.inr (.inl ⟨.inr rfl,rfl⟩))) x ▸ ap_u32 wt hfn2 hnt2 ((wrap_range x).2.1 rfl) w)
theorem ap_i64 (wt:WT P K) (hF:za_ K.tU64=true) (hF2:za_ K.tI64=true) {f f2 ntmps nt2:Nat} (hfn2:FnIs P f2 nt2 [4] (cAU64 K)) (hnt2:31<=nt2) (hfn:FnIs P f ntmps [4] (cACv K.tI64 K.tU64 f2)) (hnt:9<=ntmps) (x:Int) (w:World):ApC P K.tU8 f (.int .i64 x) (be 8 x) w:=
 ap_cv wt (wt.dI64 hF2) (wt.dU64 hF) hfn hnt hfn2.ent (be_wrap (k:=.u64) (.inr (.inr (.inr ⟨.inr rfl,rfl⟩))) x ▸ ap_u64 wt hF hfn2 hnt2 ((wrap_range x).2.2 rfl) w)
theorem ap_len (wt:WT P K) {f f2 ntmps:Nat} (hE:Ent P f2) (hc:∀ x w,ApC P K.tU8 f2 (.int .i32 x) (be 4 x) w) (hfn:FnIs P f ntmps [4] (cACv K.tInt K.tI32 f2)) (hnt:9<=ntmps) (x:Int) (w:World):ApC P K.tU8 f (.int .i64 x) (be 4 x) w:=
 ap_cv wt wt.dInt wt.dI32 hfn hnt hE (be_wrap (k:=.i32) (.inr (.inr (.inl ⟨.inl rfl,rfl⟩))) x ▸ hc _ w)
theorem u32_succ (n:Nat):IntKind.u32.wrap (1 + IntKind.u32.wrap (n:Int))=(w32 (n + 1):Nat):=by simp [IntKind.wrap,IntKind.bits,IntKind.signed,w32];omega
theorem w32_lt (n:Nat):w32 n < 4294967296:=by simp only [w32];omega
theorem ap_clen (wt:WT P K) {f f2 ntmps:Nat} (hE:Ent P f2) (hc:∀ x w,x < 4294967296->ApC P K.tU8 f2 (.int .u32 (x:Nat)) (uvar x) w) (hfn:FnIs P f ntmps [4] (cACv1 K f2)) (hnt:10<=ntmps) (n:Nat) (w:World):ApC P K.tU8 f (.int .i64 n) (uvar (w32 (n + 1))) w:=
 ap_cv1 wt hfn hnt hE (by rw [u32_succ];exact hc _ w (w32_lt _))
end
structure EvW where
 P:Program
 g:GW
 av:PF->Bool
 nl:Bool
def okValW (av:PF->Bool) (hf:Bool):Ty->Bool
 | .prim p=>av (js_ p)
 | .str none=>av .str && (!hf || av .cstr)
 | .str (some 0)=>av .nstr && (!hf || av .cnstr)
 | .str (some (_ + 1))=>(av .nstr && (!hf || av .cnstr)) && (av .str && (!hf || av .cstr))
 | .bytes none=>av .bytes && (!hf || av .cbytes)
 | .bytes (some 0)=>av .nbytes && (!hf || av .cnbytes)
 | _=>false
def ptrB (P:Program) (F:Nat):Bool:=match P.underlying F with | some (.pointer _)=>true | _=>false
def xOkW (P:Program) (v:Nat):Ty->List Nat->Bool
 | .prim p,x=>x.length == 0 || (x.length == 1 && p != .uuid)
 | .str (some (_ + 1)),x=>x.length == 4 && x.getD 0 0 != v && ptrB P (x.getD 2 0) && varB P (x.getD 3 0) false 1
 | _,x=>x.length == 0
def wlOk (e:EvW) (hf:Bool) (m k0:Nat) (ty:Ty) (v:Nat) (x:List Nat):Bool:=okValW e.av hf ty && decide (v < k0) && ((x.take 2).all fun t=>decide (m<=t/\t < k0)) && xOkW e.P v ty x
def z7_ (e:EvW) (hf:Bool) (m k0:Nat) (ty:Ty) (v:Nat) (x:List Nat):Bool:=wlOk e hf m k0 ty v x && decide (m<=v)
def LeafAt (w:World) (a:Act) (ty:Ty) (v:Nat) (cs:List Value):Prop:=
 if isUuid ty then ∃ p,a.get v=pt p 0/\qy_ w p 0 cs else ∃ y,a.get v=y/\cs=[y]
theorem up_wapp (f v:Nat):Up (jm_ f v):=qi_ _ _
theorem Pv.x1 {v m k0 n:Nat} {a a':Act} (h:Pv v m k0 n a a') (hv:m<=v/\v < k0):Pv 1 m k0 n a a':=⟨h.size,h.defers,fun s hs hs2=>h.get s (by omega) hs2⟩
theorem Pv.g1 {v m k0 n:Nat} {a a':Act} (h:Pv v m k0 n a a') (hv:m<=v/\v < k0) (h1:1 < m):a'.get 1=a.get 1:=h.get 1 (by omega) (.inl h1)
section
variable {P:Program} {g:GW} {av:PF->Bool} {fl nl:Bool} {te:Nat} {cx:Cx} {fx:Bool} {ver:Int} {L B O m k0 n:Nat} {d:Value} {bs:Bs} {K N E:Act->World->Prop} {Q:Exit->Act->World->Prop} {a:Act} {w:World}
theorem s_wleaf (K0:KW P g av fl nl te) {ty:Ty} {v:Nat} {x:List Nat} {cs:List Value} {vv:V} {rest:List GC} (hok:wlOk ⟨P,g,av,nl⟩ cx.hf m k0 ty v x=true) (hw:WC cx fx ver te L B O d bs a w) (hc:CxW cx m k0) (hk:k0<=n) (_hk0:k0<=a.tmps.size)
  (hn:(gL (jc_ g cx ty v x) n).2<=a.tmps.size) (hv:LeafAt w a ty v cs) (hl:LRp w (fun k=>L<=k) ty cs vv) (hlim:bs.length + ((zr_ fx ver ty).wr vv).length<=LIM)
  (h:∀ a' w' d',Pv 1 m k0 n a a'->a'.get 1=d'->Gr L te d w d' (bs++(zr_ fx ver ty).wr vv) w'->LW P rest (gL (jc_ g cx ty v x) n).2 Q a' w') :
  LW P (jc_ g cx ty v x++rest) n Q a w:=by
 simp only [wlOk,Bool.and_eq_true,decide_eq_true_eq,List.all_eq_true] at hok
 obtain ⟨⟨⟨hval,hvs⟩,hxs⟩,hx⟩:=hok
 have hle:=hc.le
 have h1m:=hc.one
 have hfx:fx=true->cx.hf=true:=fun h=>by
  cases hh:cx.hf with
  | true=>rfl
  | false=>rw [hw.nf hh] at h;cases h
 have app:∀ (p:PF) (t:Nat) (y:Value) (r:List GC) (n':Nat) (a:Act),av p=true->WC cx fx ver te L B O d bs a w->a.get t=y->t < k0->ValOf p cs y->LRp w (fun k=>L<=k) (pfTy p) cs vv->k0<=n'->n' + 3<=a.tmps.size->bs.length + (p.wr vv).length<=LIM ->
   (∀ a' w' d',Pv 1 m k0 n' a a'->a'.get 1=d'->Gr L te d w d' (bs++p.wr vv) w'->LW P r (n' + 3) Q a' w')->LW P (jm_ (g.ap p) t :: r) n' Q a w:=by
  intro p t y r n' a hav hw hy ht hvo hl' hkn hn' hlim' h'
  exact qc_ (s_wapp (K0.apE p hav) (K0.apC p hav w L cs y vv hl' hvo) hw.s1 hy (by omega) hw.dst hw.Lw hlim' hle hkn (by omega) hn' h')
 have app2:∀ (t:Nat) (p q:PF) (y:Value) (cs:List Value) (vv:V) (n:Nat) (a:Act) (K':Act->World->Prop) (Q:Exit->Act->World->Prop),WC cx fx ver te L B O d bs a w->t < k0->k0<=n->(cx.hf=true->av p=true)->av q=true->a.get t=y->(p ≠ .uuid/\q ≠ .uuid)->cs=[y]->LRp w (fun k=>L<=k) (pfTy p) cs vv->LRp w (fun k=>L<=k) (pfTy q) cs vv ->
   (gwFx cx (jm_ (g.ap p) t) (jm_ (g.ap q) t) n).2<=a.tmps.size->bs.length + ((if fx then p else q).wr vv).length<=LIM ->
   (∀ a' w' d',Pv 1 m k0 n a a'->a'.get 1=d'->Gr L te d w d' (bs++(if fx then p else q).wr vv) w'->K' a' w') ->
   NWP P (gwFx cx (jm_ (g.ap p) t) (jm_ (g.ap q) t) n).1 (Exit.then K' Q) a w:=by
  intro t p q y cs vv n a K' Q hw ht hk hp hq hy hpq hcs hlp hlq hn2 hlim2 h2
  have hn1:n < a.tmps.size:=by
   unfold gwFx at hn2
   split at hn2
   ·have:n + 1 + 3 + 3<=a.tmps.size:=hn2
    omega
   ·have:n + 3<=a.tmps.size:=hn2
    omega
  refine s_wfx (up_wapp _ _) (up_wapp _ _) hw hc hk hn2 hn1 fun a1 n1 hp1 hg1 hlow hn1 hsz=>?_
  have hs1:=hp1.size
  have hv1:a1.get t=y:=by rw [<- hy];exact hlow t (by omega)
  cases fx with
  | true=>
   simp only [if_true] at hsz hlim2 h2 ⊢
   have hsz':n1 + 3<=a.tmps.size:=hsz
   exact s_wapp (K0.apE p (hp (hfx rfl))) (K0.apC p (hp (hfx rfl)) w L cs y vv hlp (by simp only [ValOf,if_neg hpq.1];exact hcs)) hg1 hv1 (by omega) hw.dst hw.Lw hlim2 hle (by omega) (by omega) (by omega) fun a' w' d' hp' h1' hg'=>h2 a' w' d' (hp1.trans (hp'.mono (Nat.le_refl _) hn1)) h1' hg'
  | false=>
   simp only [Bool.false_eq_true,if_false] at hsz hlim2 h2 ⊢
   have hsz':n1 + 3<=a.tmps.size:=hsz
   exact s_wapp (K0.apE q hq) (K0.apC q hq w L cs y vv hlq (by simp only [ValOf,if_neg hpq.2];exact hcs)) hg1 hv1 (by omega) hw.dst hw.Lw hlim2 hle (by omega) (by omega) (by omega) fun a' w' d' hp' h1' hg'=>h2 a' w' d' (hp1.trans (hp'.mono (Nat.le_refl _) hn1)) h1' hg'
 cases ty with
 | prim p=>
  have hpp:pfTy (js_ p)=.prim p:=by cases p <;> rfl
  have hlp:LRp w (fun k=>L<=k) (pfTy (js_ p)) cs vv:=by rw [hpp];exact hl
  by_cases hu:p=.uuid
  ·subst hu
   obtain ⟨q,hq,hcs⟩:=hv
   have hav:av .uuid=true:=hval
   have hlen:cs.length=16:=hl.len
   exact qc_ (s_wappU (K0.uuid hav).1 (K0.apE _ hav) (K0.apC _ hav w L cs _ vv hlp rfl) hw.s1 hq hcs hlen (by omega) hw.dst hw.Lw hlim hle hk (by omega) hn h)
  ·have hiu:isUuid (.prim p)=false:=by cases p <;> first | rfl | exact absurd rfl hu
   simp only [LeafAt,hiu,Bool.false_eq_true,if_false] at hv
   obtain ⟨y,hy,hcs⟩:=hv
   have hvo:ValOf (js_ p) cs y:=by
    have:js_ p ≠ .uuid:=by cases p <;> first | decide | exact absurd rfl hu
    simp only [ValOf,if_neg this];exact hcs
   have hcode0:jc_ g cx (.prim p) v []=[jm_ (g.ap (js_ p)) v]:=by cases p <;> first | rfl | exact absurd rfl hu
   have hcode1:∀ t,jc_ g cx (.prim p) v [t]=[jf_ v t,jm_ (g.ap (js_ p)) t]:=fun t=>by cases p <;> first | rfl | exact absurd rfl hu
   simp only [xOkW,Bool.or_eq_true,Bool.and_eq_true,beq_iff_eq] at hx
   rcases hx with hx | ⟨hx,_⟩
   ·obtain rfl:=List.eq_nil_of_length_eq_zero hx
    rw [hcode0] at hn h ⊢
    exact app _ v y rest n a hval hw hy hvs hvo hlp hk hn hlim h
   ·obtain ⟨t,rfl⟩:=List.length_eq_one_iff.1 hx
    have ht:=hxs t (by simp)
    rw [hcode1] at hn h ⊢
    have hn':n + 1 + 3<=a.tmps.size:=hn
    show LW P (jf_ v t :: (jm_ (g.ap (js_ p)) t :: rest)) n Q a w
    refine qc_ (s_move (x:=t) (m:=m) (k0:=k0) (.inl rfl) hle hk (by omega) (by omega) fun a1 hp1 hg1=>?_)
    have hp1':=hp1.x1 ht
    have hs1:=hp1.size
    show LW P (jm_ (g.ap (js_ p)) t :: rest) (n + 1) Q a1 w
    refine app _ t y rest (n + 1) a1 hval (hw.step hc hp1' (by rw [hp1.g1 ht h1m];exact hw.s1) (Gr.refl hw.dst)) (hg1.trans hy) ht.2 hvo hlp (by omega) (by omega) hlim fun a' w' d' hp' h1' hg'=>h a' w' d' (hp1'.trans (hp'.mono (Nat.le_refl _) (by omega))) h1' hg'
 | str nul=>
  obtain ⟨y,hy,hcs⟩:=hv
  cases nul with
  | none=>
   obtain rfl:x=[]:=List.eq_nil_of_length_eq_zero (by simpa [xOkW] using hx)
   simp only [okValW,Bool.and_eq_true,Bool.or_eq_true,Bool.not_eq_true'] at hval
   have e:zr_ fx ver (.str none)=if fx then .cstr else .str:=by cases fx <;> rfl
   rw [e] at hlim h
   exact qc_ (app2 v .cstr .str y cs vv n a _ _ hw hvs hk (fun hf=>by rcases hval.2 with h | h;rw [h] at hf;cases hf;exact h) hval.1 hy ⟨by decide,by decide⟩ hcs hl hl hn hlim h)
  | some q=>
   cases q with
   | zero=>
    obtain rfl:x=[]:=List.eq_nil_of_length_eq_zero (by simpa [xOkW] using hx)
    simp only [okValW,Bool.and_eq_true,Bool.or_eq_true,Bool.not_eq_true'] at hval
    have e:zr_ fx ver (.str (some 0))=if fx then .cnstr else .nstr:=by cases fx <;> rfl
    rw [e] at hlim h
    exact qc_ (app2 v .cnstr .nstr y cs vv n a _ _ hw hvs hk (fun hf=>by rcases hval.2 with h | h;rw [h] at hf;cases hf;exact h) hval.1 hy ⟨by decide,by decide⟩ hcs hl hl hn hlim h)
   | succ q=>
    simp only [xOkW,Bool.and_eq_true,beq_iff_eq,bne_iff_ne,ne_eq] at hx
    obtain ⟨⟨⟨hxl,hxv⟩,hptr⟩,hvar⟩:=hx
    match x,hxl with
    | [b,u,F,tS],_=>
    simp only [List.getD_cons_zero,List.getD_cons_succ] at hxv hptr hvar
    have hb:=hxs b (by simp)
    have hu:=hxs u (by simp)
    obtain ⟨el,hel⟩:∃ el,P.underlying F=some (.pointer el):=by
     unfold ptrB at hptr
     split at hptr
     ·rename_i el h;exact ⟨el,h⟩
     ·cases hptr
    have hvarS:=varB_ok hvar
    simp only [okValW,Bool.and_eq_true,Bool.or_eq_true,Bool.not_eq_true'] at hval
    obtain ⟨⟨v1,v2⟩,v3,v4⟩:=hval
    have hcode:jc_ g cx (.str (some (q + 1))) v [b,u,F,tS]=[gIf 1 2 (fun n=>[mk (some n) (.move (tm cx.ver)),mk (some (n + 1)) (.binOp .lss g.tVer (tm n) (ki .i16 ((q:Int) + 1)) 0)])
      (gS [ji_ b (.string ⟨#[]⟩),gIf 1 2 (fun n=>[mk (some n) (.move (tm v)),mk (some (n + 1)) (.binOp .neq F (tm n) (.const (.pointer none)) 0)])
       (qu_ 3 fun n=>[mk (some n) (.move (tm v)),mk (some (n + 1)) (.nilCheck (tm n)),mk (some (n + 2)) (.load tS (tm (n + 1))),mk (some b) (.assign (tm (n + 2)))]) jk_,
       jf_ b u,gwFx cx (jm_ (g.ap .cstr) u) (jm_ (g.ap .str) u)])
      (gwFx cx (jm_ (g.ap .cnstr) v) (jm_ (g.ap .nstr) v))]:=rfl
    rw [hcode] at hn h ⊢
    have hn2:(gwFx cx (jm_ (g.ap .cnstr) v) (jm_ (g.ap .nstr) v) (gwFx cx (jm_ (g.ap .cstr) u) (jm_ (g.ap .str) u) (n + 2 + 2 + 3 + 1)).2).2<=a.tmps.size:=hn
    have hu1:n + 2 + 2 + 3 + 1<=(gwFx cx (jm_ (g.ap .cstr) u) (jm_ (g.ap .str) u) (n + 2 + 2 + 3 + 1)).2:=up_ite (j4_ (qi_ _ _) (qi_ _ _)) (qi_ _ _) _
    have hu2:(gwFx cx (jm_ (g.ap .cstr) u) (jm_ (g.ap .str) u) (n + 2 + 2 + 3 + 1)).2<=(gwFx cx (jm_ (g.ap .cnstr) v) (jm_ (g.ap .nstr) v) (gwFx cx (jm_ (g.ap .cstr) u) (jm_ (g.ap .str) u) (n + 2 + 2 + 3 + 1)).2).2:=up_ite (j4_ (qi_ _ _) (qi_ _ _)) (qi_ _ _) _
    refine qc_ ?_
    by_cases hlt:ver < (q:Int) + 1
    ·-- a text,or none as an empty one
     have e:zr_ fx ver (.str (some (q + 1)))=if fx then .cstr else .str:=by
      have:zm_ (some (q + 1)) ver=false:=by simp [zm_];omega
      simp only [zr_,this]
      cases fx <;> rfl
     rw [e] at hlim h
     refine z3_ (qd_ ?_)
     rw [qb_,hw.sv]
     refine q9_ (b:=true) (q:=(q:Int) + 1) (p:=ver) (k:=.i16) (by rw [qb_,gpe (by omega)]) rfl (.inr (.inr (.inl ⟨rfl,by simp;omega⟩))) (wpList_nil ⟨by rw [qb_,gpe (by simp only [qa_];omega)],q2_ (qc_ (qj_ (qg_ (wpList_nil ?_))))⟩)
     have hp1:Pv 1 m k0 n a ((((a.put (some n) (.int .i16 ver)).put (some (n + 1)) (.bool true)).put (some b) (.string ⟨#[]⟩))):=(((Pv.refl _ _ _ _ _).put _ (by omega)).put _ (by omega)).put _ (by omega)
     have hgv:((((a.put (some n) (.int .i16 ver)).put (some (n + 1)) (.bool true)).put (some b) (.string ⟨#[]⟩))).get v=y:=by
      rw [gpo (by omega),gpo (by omega),gpo (by omega)];exact hy
     have hgb:((((a.put (some n) (.int .i16 ver)).put (some (n + 1)) (.bool true)).put (some b) (.string ⟨#[]⟩))).get b=.string ⟨#[]⟩:=gpe (by simp only [qa_];omega)
     show LW P _ (n + 2) _ (((a.put (some n) (.int .i16 ver)).put (some (n + 1)) (.bool true)).put (some b) (.string ⟨#[]⟩)) w
     have hg1:((((a.put (some n) (.int .i16 ver)).put (some (n + 1)) (.bool true)).put (some b) (.string ⟨#[]⟩))).get 1=d:=by
      rw [gpo (by omega),gpo (by omega),gpo (by omega)];exact hw.s1
     generalize (((a.put (some n) (.int .i16 ver)).put (some (n + 1)) (.bool true)).put (some b) (.string ⟨#[]⟩))=a1 at hp1 hgv hgb hg1
     have hs1:=hp1.size
     have fin:∀ (a3:Act) (l:Bs),Pv 1 m k0 n a a3->a3.get 1=d->a3.get b=.string ⟨l.toArray⟩->l=vv.octets->l.length<=maxLen->∀ Q',(∀ a' w' d',Pv 1 m k0 n a a'->a'.get 1=d'->Gr L te d w d' (bs++(if fx then PF.cstr else PF.str).wr vv) w'->Q' .normal a' w')->LW P [jf_ b u,gwFx cx (jm_ (g.ap .cstr) u) (jm_ (g.ap .str) u)] (n + 2 + 2 + 3) Q' a3 w:=by
      intro a3 l hp3 hd3 hg3 hlv hlm Q' hQ
      have hs3:=hp3.size
      refine qc_ (s_move (x:=u) (m:=m) (k0:=k0) (.inl rfl) hle (by omega) (by omega) (by omega) fun a4 hp4 hg4=>?_)
      have hp4':=hp4.x1 hu
      have hs4:=hp4.size
      have hp04:Pv 1 m k0 n a a4:=hp3.trans (hp4'.mono (Nat.le_refl _) (by omega))
      have hw4:WC cx fx ver te L B O d bs a4 w:=hw.step hc hp04 (by rw [hp4.g1 hu h1m];exact hd3) (Gr.refl hw.dst)
      have hwr:∀ p:PF,(p=.cstr \/ p=.str)->p.wr (.s l)=p.wr vv:=by
       rintro p (rfl | rfl) <;> simp only [PF.wr,V.octets,hlv]
      have hwr2:(if fx then PF.cstr else PF.str).wr (.s l)=(if fx then PF.cstr else PF.str).wr vv:=hwr _ (by cases fx <;> simp)
      refine qc_ (app2 u .cstr .str (.string ⟨l.toArray⟩) [.string ⟨l.toArray⟩] (.s l) (n + 2 + 2 + 3 + 1) a4 _ _ hw4 hu.2 (by omega) (fun hf=>by rcases v4 with h | h;rw [h] at hf;cases hf;exact h) v3 (by rw [hg4,hg3]) ⟨by decide,by decide⟩ rfl ⟨l,rfl,rfl,hlm⟩ ⟨l,rfl,rfl,hlm⟩ (by rw [hs4,hs3];omega) (by rw [hwr2];exact hlim) fun a' w' d' hp' h1' hg'=>q0_ (hQ a' w' d' (hp04.trans (hp'.mono (Nat.le_refl _) (by omega))) h1' (by rw [<- hwr2];exact hg')))
     rcases hl with ⟨hl1,rfl⟩ | ⟨l,p,o,hl1,_,hl3,rfl,hl5⟩
     ·rw [hl1] at hcs
      obtain rfl:Value.pointer none=y:=by simpa using hcs
      refine qc_ (z2_ (qd_ (wl_ptrNe (m:=none) hel (by rw [qb_,gpe (by omega),qb_];exact hgv) (wpList_nil ⟨by rw [qb_,gpe (by simp only [qa_];omega)];rfl,.skip ?_⟩))))
      exact fin _ [] ((hp1.put _ (by omega)).put _ (by omega)) (by rw [gpo (by omega),gpo (by omega)];exact hg1) (by rw [gpo (by omega),gpo (by omega)];exact hgb) rfl (by simp) _ fun a' w' d' hp' h1' hg'=>h a' w' d' hp' h1' hg'
     ·rw [hl1] at hcs
      obtain rfl:Value.pointer (some ⟨p,o,none⟩)=y:=by simpa using hcs
      refine qc_ (z3_ (qd_ (wl_ptrNe (m:=some ⟨p,o,none⟩) hel (by rw [qb_,gpe (by omega),qb_];exact hgv) (wpList_nil ⟨by rw [qb_,gpe (by simp only [qa_];omega)];rfl,qj_ (qd_ ?_)⟩))))
      simp only [qb_]
      rw [gpo (by omega),gpo (by omega),hgv]
      refine qp_ (p:=⟨p,o,none⟩) (by rw [qb_,gpe (by simp only [qa_];omega)]) (q5_ (p:=⟨p,o,none⟩) (v:=.string ⟨l.toArray⟩) (by rw [qb_,gpe (by simp only [qa_];omega)]) (hvarS.agg w) hl3 (qg_ (wpList_nil ?_)))
      rw [qb_,gpe (by simp only [qa_];omega)]
      exact fin _ l ((((((hp1.put _ (by omega)).put _ (by omega)).put _ (by omega)).put _ (by omega)).put _ (by omega)).put _ (by omega)) (by rw [gpo (by omega),gpo (by omega),gpo (by omega),gpo (by omega),gpo (by omega),gpo (by omega)];exact hg1) (gpe (by simp only [qa_];omega)) rfl hl5 _ fun a' w' d' hp' h1' hg'=>h a' w' d' hp' h1' hg'
    ·-- a text that may be null
     have e:zr_ fx ver (.str (some (q + 1)))=if fx then .cnstr else .nstr:=by
      have:zm_ (some (q + 1)) ver=true:=by simp [zm_];omega
      simp only [zr_,this]
      cases fx <;> rfl
     rw [e] at hlim h
     refine z2_ (qd_ ?_)
     rw [qb_,hw.sv]
     refine q9_ (b:=false) (q:=(q:Int) + 1) (p:=ver) (k:=.i16) (by rw [qb_,gpe (by omega)]) rfl (.inr (.inr (.inl ⟨rfl,by simp;omega⟩))) (wpList_nil ⟨by rw [qb_,gpe (by simp only [qa_];omega)],?_⟩)
     have hp1:Pv 1 m k0 n a ((a.put (some n) (.int .i16 ver)).put (some (n + 1)) (.bool false)):=((Pv.refl _ _ _ _ _).put _ (by omega)).put _ (by omega)
     have hw1:WC cx fx ver te L B O d bs ((a.put (some n) (.int .i16 ver)).put (some (n + 1)) (.bool false)) w:=hw.step hc hp1 (by rw [gpo (by omega),gpo (by omega)];exact hw.s1) (Gr.refl hw.dst)
     refine app2 v .cnstr .nstr y cs vv _ _ _ _ hw1 hvs ?_ (fun hf=>by rcases v2 with h | h;rw [h] at hf;cases hf;exact h) v1 (by rw [gpo (by omega),gpo (by omega)];exact hy) ⟨by decide,by decide⟩ hcs hl hl (by simp only [qa_];exact hn2) hlim fun a' w' d' hp' h1' hg'=>h a' w' d' (hp1.trans (hp'.mono (Nat.le_refl _) ?_)) h1' hg'
     ·show k0<=(gwFx cx (jm_ (g.ap .cstr) u) (jm_ (g.ap .str) u) (n + 2 + 2 + 3 + 1)).2
      omega
     ·show n<=(gwFx cx (jm_ (g.ap .cstr) u) (jm_ (g.ap .str) u) (n + 2 + 2 + 3 + 1)).2
      omega
 | bytes nul=>
  obtain ⟨y,hy,hcs⟩:=hv
  obtain rfl:x=[]:=List.eq_nil_of_length_eq_zero (by simpa [xOkW] using hx)
  cases nul with
  | none=>
   simp only [okValW,Bool.and_eq_true,Bool.or_eq_true,Bool.not_eq_true'] at hval
   have e:zr_ fx ver (.bytes none)=if fx then .cbytes else .bytes:=by cases fx <;> rfl
   rw [e] at hlim h
   exact qc_ (app2 v .cbytes .bytes y cs vv n a _ _ hw hvs hk (fun hf=>by rcases hval.2 with h | h;rw [h] at hf;cases hf;exact h) hval.1 hy ⟨by decide,by decide⟩ hcs hl hl hn hlim h)
  | some q=>
   cases q with
   | zero=>
    simp only [okValW,Bool.and_eq_true,Bool.or_eq_true,Bool.not_eq_true'] at hval
    have e:zr_ fx ver (.bytes (some 0))=if fx then .cnbytes else .nbytes:=by cases fx <;> rfl
    rw [e] at hlim h
    exact qc_ (app2 v .cnbytes .nbytes y cs vv n a _ _ hw hvs hk (fun hf=>by rcases hval.2 with h | h;rw [h] at hf;cases hf;exact h) hval.1 hy ⟨by decide,by decide⟩ hcs hl hl hn hlim h)
   | succ q=>cases hval
 | list _ _ _=>cases hval
 | struct _ _ _=>cases hval
end
section
variable {P:Program} {g:GW} {av:PF->Bool} {fl nl:Bool} {te:Nat} {cx:Cx} {fx:Bool} {ver:Int} {L B O m k0 n:Nat} {d:Value} {bs:Bs} {K N E:Act->World->Prop} {Q:Exit->Act->World->Prop} {a:Act} {w:World}
theorem cellsAt_row {w:World} {b F:Nat} {cs:List Value} (hb:w.heap[b]?=some (.cells cs.toArray F (0,0))):qy_ w b 0 cs:=by
 intro j c hj
 rw [Nat.zero_add]
 simp [World.cell?,hb,hj]
theorem wl_boxU {F n v:Nat} {cs:List Value} {ops:Array Oper} {QQ:Exit->Act->World->Prop} (hV:jp_ P F true 16) (hz:∀ w,(zeroValue F).run P w=.ok (.agg (Array.replicate 16 (.int .u8 0))) w) (hl:cs.length=16) (h1:∀ u ∈ cs,u.oneCell'=true) (hn:a.get n=.agg cs.toArray) (hnv:n ≠ v) (hvs:v < a.tmps.size)
  (h:∀ w',Keeps (fun _=>False) w w'->qy_ w' w.heap.size 0 cs->wpList P ops QQ [] (a.put (some v) (pt w.heap.size 0)) w') :
  wpList P ops QQ [mk (some v) (.alloc F),mk none (.store F (tm v) (tm n))] a w:=by
 refine zp_ (hz w) ?_
 let Z:Obj:=.cells (Value.agg (Array.replicate 16 (.int .u8 0))).cells F (0,0)
 have hb:(w.alloc Z).heap[w.heap.size]?=some Z:=qs_ w Z
 have hzs:(Value.agg (Array.replicate 16 (.int .u8 0))).cells.size=16:=by simp [Value.cells]
 refine q8_ (g:=w.heap.size) (o:=0) (cur:=(Value.agg (Array.replicate 16 (.int .u8 0))).cells) (t:=F) (v:=.agg cs.toArray) (vs:=cs) (by rw [qb_,zw_ _ _ _ hvs]) (by rw [qb_,zz_ _ _ _ _ hnv];exact hn) rfl (by rw [hl];exact hV.size _) hb (by rw [hl];omega) h1 ?_
 rw [zu_ (by rw [hl];exact hzs.symm)]
 have hk:Keeps (fun k=>w.heap.size<=k) w ((w.alloc Z).setRow w.heap.size cs.toArray):=(Keeps.alloc _ _ _).trans (Keeps.setRow (fun k=>w.heap.size<=k) _ _ _ (Nat.le_refl _))
 refine h _ (hk.mono fun k hk hX=>by omega) ?_
 have hb2:=setRow_heap _ _ _ cs.toArray _ _ hb
 exact cellsAt_row hb2
theorem cells_one {X:Nat->Prop} {cs:List Value} {v:V} (h:LRp w X (.prim .uuid) cs v):cs.length=16/\∀ u ∈ cs,u.oneCell'=true:=by
 obtain ⟨l,hl,rfl,_⟩:=h
 exact ⟨by rw [List.length_map];exact hl,oct_one⟩
theorem s_wget {ty:Ty} {s v T k F off:Nat} {vv:V} (hleaf:ty.leaf=true) (hs:a.get s=pt B O) (hF:zj_ P T k F off ty.agg ty.sz) (hU:isUuid ty=true->jp_ P F true 16/\∀ w,(zeroValue F).run P w=.ok (.agg (Array.replicate 16 (.int .u8 0))) w) {X:Nat->Prop} (_hX:∀ k,¬ X k->k < w.heap.size->True)
  (hr:Rp w X ty B (O + off) vv) (hv:m<=v/\v < k0) (hm:m<=k0) (hk:k0<=n) (hn:n + 4<=a.tmps.size) (h1:1 < m)
  (h:∀ a' w' cs,Pv 1 m k0 n a a'->a'.get 1=a.get 1->Keeps (fun _=>False) w w'->LeafAt w' a' ty v cs->LRp w' X ty cs vv->K a' w'):NWP P (gwGet ty s v T k F n).1 (Exit.then K Q) a w:=by
 have hcs:∃ cs,qy_ w B (O + off) cs/\LRp w X ty cs vv:=by
  cases ty with
  | prim p=>exact hr
  | str q=>exact hr
  | bytes q=>exact hr
  | list _ _ _=>cases hleaf
  | struct _ _ _=>cases hleaf
 obtain ⟨cs,hc,hl⟩:=hcs
 by_cases hu:isUuid ty=true
 ·obtain rfl:ty=.prim .uuid:=by
   cases ty with
   | prim p=>cases p <;> first | rfl | cases hu
   | _=>cases hu
  obtain ⟨hV,hz⟩:=hU rfl
  obtain ⟨hlen,hone⟩:=cells_one hl
  show NWP P (gwLoadU s v T k F n).1 (Exit.then K Q) a w
  refine qj_ (qd_ ?_)
  rw [qb_,hs]
  refine qp_ (by rw [qb_,gpe (by omega)];rfl) ?_
  refine ju_ (by rw [qb_,gpe (by simp only [qa_];omega)]) hF ?_
  refine wl_loadN (b:=B) (o:=O + off) (cs:=cs) (by rw [qb_,gpe (by simp only [qa_];omega)]) (hF.var.agg w) (by rw [hlen];exact hF.var.size w) hc ?_
  refine wl_boxU hV hz hlen hone (gpe (by simp only [qa_];omega)) (by omega) (by simp only [qa_];omega) fun w' hk' hc'=>wpList_nil (h _ w' cs ?_ ?_ hk' ?_ (hl.keep (hk'.mono fun _ _ h=>h.elim)))
  ·exact (((((Pv.refl _ _ _ _ _).put _ (by omega)).put _ (by omega)).put _ (by omega)).put _ (by omega)).put _ (by omega)
  ·rw [gpo (by omega),gpo (by omega),gpo (by omega),gpo (by omega),gpo (by omega)]
  ·exact ⟨w.heap.size,gpe (by simp only [qa_];omega),hc'⟩
 ·have hu':isUuid ty=false:=by simpa using hu
  have hone:∃ y,cs=[y]:=by
   have hlen:=hl.len
   have:ty.sz=1:=by
    cases ty with
    | prim p=>cases p <;> first | rfl | exact absurd rfl hu
    | str _=>rfl
    | bytes _=>rfl
    | list _ _ _=>rfl
    | struct _ _ _=>cases hleaf
   rw [this] at hlen
   exact List.length_eq_one_iff.1 hlen
  obtain ⟨y,rfl⟩:=hone
  have hagg:ty.agg=false/\ty.sz=1:=by
   cases ty with
   | prim p=>cases p <;> first | exact ⟨rfl,rfl⟩ | exact absurd rfl hu
   | str _=>exact ⟨rfl,rfl⟩
   | bytes _=>exact ⟨rfl,rfl⟩
   | list _ _ _=>cases hleaf
   | struct _ _ _=>cases hleaf
  rw [hagg.1,hagg.2] at hF
  unfold gwGet
  rw [hu']
  simp only [Bool.false_eq_true,if_false]
  refine s_load (x:=v) (m:=m) (k0:=k0) hs hF (hc 0 y rfl) (.inl rfl) hm hk hn (by omega) fun a' hp hg=>h a' w [y] (hp.x1 hv) (hp.g1 hv h1) (Keeps.refl _ _) ?_ hl
  simp only [LeafAt,hu',Bool.false_eq_true,if_false]
  exact ⟨y,hg,rfl⟩
theorem s_widx {ty:Ty} {v i e F E' p q cnt c j:Nat} {vv:V} (hleaf:ty.leaf=true) (hy:a.get v=.slice (some ⟨p,q,none⟩) cnt c) (hi:a.get i=.int .i64 j) (hj:j < cnt) (hF:P.underlying F=some (.slice E')) (hE:jp_ P E' ty.agg ty.sz) (hU:isUuid ty=true->jp_ P E' true 16/\∀ w,(zeroValue E').run P w=.ok (.agg (Array.replicate 16 (.int .u8 0))) w) {X:Nat->Prop}
  (hr:Rp w X ty p (q + j * ty.sz) vv) (hv:m<=e/\e < k0) (_hvn:v < n) (hin:i < n) (_hm:m<=k0) (hk:k0<=n) (hn:n + 4<=a.tmps.size) (h1:1 < m)
  (h:∀ a' w' cs,Pv 1 m k0 n a a'->a'.get 1=a.get 1->Keeps (fun _=>False) w w'->LeafAt w' a' ty e cs->LRp w' X ty cs vv->K a' w'):NWP P (gwIdxG ty v i e F E' n).1 (Exit.then K Q) a w:=by
 have hcs:∃ cs,qy_ w p (q + j * ty.sz) cs/\LRp w X ty cs vv:=by
  cases ty with
  | prim p=>exact hr
  | str q=>exact hr
  | bytes q=>exact hr
  | list _ _ _=>cases hleaf
  | struct _ _ _=>cases hleaf
 obtain ⟨cs,hc,hl⟩:=hcs
 by_cases hu:isUuid ty=true
 ·obtain rfl:ty=.prim .uuid:=by
   cases ty with
   | prim p=>cases p <;> first | rfl | cases hu
   | _=>cases hu
  obtain ⟨hV,hz⟩:=hU rfl
  obtain ⟨hlen,hone⟩:=cells_one hl
  show NWP P (gwIdxU v i e F E' n).1 (Exit.then K Q) a w
  refine qj_ (qd_ (qd_ ?_))
  rw [qb_,hy,qb_,gpo (by omega),hi]
  refine j3_ (b:=p) (o:=q) (n:=cnt) (c:=c) (i:=j) (k:=.i64) (by rw [qb_,gpo (by omega),gpe (by omega)]) (by rw [qb_,gpe (by simp only [qa_];omega)]) hj hF (hE.size w) ?_
  refine wl_loadN (b:=p) (o:=q + j * Ty.sz (.prim .uuid)) (cs:=cs) (by rw [qb_,gpe (by simp only [qa_];omega)]) (hE.agg w) (by rw [hlen];exact hE.size w) hc ?_
  refine wl_boxU hV hz hlen hone (gpe (by simp only [qa_];omega)) (by omega) (by simp only [qa_];omega) fun w' hk' hc'=>wpList_nil (h _ w' cs ?_ ?_ hk' ?_ (hl.keep (hk'.mono fun _ _ h=>h.elim)))
  ·exact (((((Pv.refl _ _ _ _ _).put _ (by omega)).put _ (by omega)).put _ (by omega)).put _ (by omega)).put _ (by omega)
  ·rw [gpo (by omega),gpo (by omega),gpo (by omega),gpo (by omega),gpo (by omega)]
  ·exact ⟨w.heap.size,gpe (by simp only [qa_];omega),hc'⟩
 ·have hu':isUuid ty=false:=by simpa using hu
  have hagg:ty.agg=false/\ty.sz=1:=by
   cases ty with
   | prim p=>cases p <;> first | exact ⟨rfl,rfl⟩ | exact absurd rfl hu
   | str _=>exact ⟨rfl,rfl⟩
   | bytes _=>exact ⟨rfl,rfl⟩
   | list _ _ _=>cases hleaf
   | struct _ _ _=>cases hleaf
  have hone:∃ y,cs=[y]:=by
   have hlen:=hl.len
   rw [hagg.2] at hlen
   exact List.length_eq_one_iff.1 hlen
  obtain ⟨y,rfl⟩:=hone
  rw [hagg.1,hagg.2] at hE
  unfold gwIdxG
  rw [hu']
  simp only [Bool.false_eq_true,if_false]
  refine qj_ (qd_ (qd_ ?_))
  rw [qb_,hy,qb_,gpo (by omega),hi]
  refine j3_ (b:=p) (o:=q) (n:=cnt) (c:=c) (i:=j) (k:=.i64) (by rw [qb_,gpo (by omega),gpe (by omega)]) (by rw [qb_,gpe (by simp only [qa_];omega)]) hj hF (hE.size w) ?_
  refine q5_ (v:=y) (by rw [qb_,gpe (by simp only [qa_];omega)]) (hE.agg w) (by have:=hc 0 y rfl;rw [hagg.2] at this;exact this) ?_
  refine qg_ (wpList_nil (h _ w [y] ?_ ?_ (Keeps.refl _ _) ?_ hl))
  ·exact (((((Pv.refl _ _ _ _ _).put _ (by omega)).put _ (by omega)).put _ (by omega)).put _ (by omega)).put _ (by omega)
  ·rw [gpo (by omega),gpo (by omega),gpo (by omega),gpo (by omega),gpo (by omega)]
  ·simp only [LeafAt,hu',Bool.false_eq_true,if_false]
   exact ⟨y,by rw [gpe (by simp only [qa_];omega),qb_,gpe (by simp only [qa_];omega)],rfl⟩
theorem s_widxAddr {v i e F E' p q cnt c j sz:Nat} (hy:a.get v=.slice (some ⟨p,q,none⟩) cnt c) (hi:a.get i=.int .i64 j) (hj:j < cnt) (hF:P.underlying F=some (.slice E')) (hE:∀ w,(sizeOf E').run P w=.ok sz w)
  (hv:m<=e/\e < k0) (_hvn:v < n) (hin:i < n) (_hm:m<=k0) (hk:k0<=n) (hn:n + 3<=a.tmps.size) (h1:1 < m)
  (h:∀ a',Pv 1 m k0 n a a'->a'.get 1=a.get 1->a'.get e=pt p (q + j * sz)->K a' w):NWP P (z6_ v i e F n).1 (Exit.then K Q) a w:=by
 refine qj_ (qd_ (qd_ ?_))
 rw [qb_,hy,qb_,gpo (by omega),hi]
 refine j3_ (b:=p) (o:=q) (n:=cnt) (c:=c) (i:=j) (k:=.i64) (by rw [qb_,gpo (by omega),gpe (by omega)]) (by rw [qb_,gpe (by simp only [qa_];omega)]) hj hF (hE w) ?_
 refine qg_ (wpList_nil (h _ ?_ ?_ ?_))
 ·exact ((((Pv.refl _ _ _ _ _).put _ (by omega)).put _ (by omega)).put _ (by omega)).put _ (by omega)
 ·rw [gpo (by omega),gpo (by omega),gpo (by omega),gpo (by omega)]
 ·rw [gpe (by simp only [qa_];omega),qb_,gpe (by simp only [qa_];omega)];rfl
theorem s_wbyte (K0:KW P g av fl nl te) {c:Nat} (hc:c < 256) (h1:a.get 1=d) (hd:jh_ w L te d bs) (hL:L<=w.heap.size) (hlim:bs.length + 1<=LIM) (hm:m<=k0) (hk:k0<=n) (h1m:1 < n) (hn:n + 3<=a.tmps.size)
  (h:∀ a' w' d',Pv 1 m k0 n a a'->a'.get 1=d'->Gr L te d w d' (bs++[UInt8.ofNat c]) w'->K a' w'):NWP P (gwByte g c n).1 (Exit.then K Q) a w:=by
 refine qj_ (qd_ ?_)
 rw [qb_,h1]
 have ho:octv (UInt8.ofNat c)=.int .u8 (c:Int):=by simp [octv];omega
 refine wl_buildSlice (l:=[UInt8.ofNat c]) K0.oct ?_ (by simp) (by simp) ?_
 ·simp only [List.map_cons,List.map_nil,ho,prs]
  rfl
 have hk':Keeps (fun _=>False) w (w.alloc (.cells ([UInt8.ofNat c].map octv).toArray te (0,0))):=Keeps.alloc _ _ _
 have hoct:OctAt (w.alloc (.cells ([UInt8.ofNat c].map octv).toArray te (0,0))) w.heap.size 0 [UInt8.ofNat c]:=by
  intro j b hj
  have:=qs_ w (.cells ([UInt8.ofNat c].map octv).toArray te (0,0))
  simp only [World.cell?,this,Nat.zero_add,List.getElem?_toArray,List.getElem?_map,hj]
  rfl
 refine wl_appendDst K0.oct (d:=d) (L:=L) (bs:=bs) (l:=[UInt8.ofNat c]) ?_ (x:=.slice (some ⟨w.heap.size,0,none⟩) 1 1) ?_ (hd.keep hk' fun _ _ h=>h) (src_oct K0.oct hoct) (by have:=hk'.size;omega) hlim fun d' w' hg=>?_
 ·rw [qb_,gpo (by omega),gpe (by omega)]
 ·rw [qb_,gpe (by rw [qa_];omega)]
  rfl
 refine qg_ (wpList_nil (h _ w' d' ?_ ?_ (Gr.pre hk' (fun _ _ h=>h) hg)))
 ·exact ((((Pv.refl _ _ _ _ _).put _ (by omega)).put _ (by omega)).put _ (by omega)).put _ (.inl rfl)
 ·rw [gpe (by simp only [qa_];omega),qb_,gpe (by simp only [qa_];omega)]
end
section
variable {P:Program} {K:Kn}
theorem wl_lenAny {ops:Array Oper} {Q:Exit->Act->World->Prop} {r:List Oper} {a:Act} {w:World} {d:Option Nat} {y:Operand} {T ty n:Nat} (h1:(execOp a.eval (bi d .len [y] [T] ty)).run P w=.ok (.value (.int .i64 n)) w)
  (h:wpList P ops Q r (a.put d (.int .i64 n)) w):wpList P ops Q (bi d .len [y] [T] ty :: r) a w:=by
 refine wpList_plain rfl fun _ hK=>?_
 unfold Oper.wp
 rw [h1]
 exact hK _ _ h
structure TxtV (P:Program) (tX:Nat) (x:Value) (l:Bs) (L:Nat) (w:World):Prop where
 len:∀ (a:Act) (w:World) (d:Option Nat) (y:Operand) (ty:Nat),a.eval y=x->(execOp a.eval (bi d .len [y] [tX] ty)).run P w=.ok (.value (.int .i64 l.length)) w
 src:∀ w',Keeps (fun k=>L<=k) w w'->Src P 1 tX x l.length (l.map octv) w'
theorem txt_str {tX:Nat} (hT:P.underlying tX=some .string) (l:Bs) (L:Nat) (w:World):TxtV P tX (.string ⟨l.toArray⟩) l L w:=
 ⟨fun a w d y ty hy=>by
  have hsz:ByteArray.size ⟨l.toArray⟩=l.length:=List.size_toArray
  simp [execOp,bi,resolve,invoke,hy,builtin,Builtin.len_,run_underlying hT,goInt,hsz],fun w' _=>src_str hT w' l⟩
theorem ap_rest (wt:WT P K) {tX:Nat} {x:Value} {l bs:Bs} {L n:Nat} {d:Value} {N E:Act->World->Prop} {a:Act} {w:World} (hx:Src P 1 tX x l.length (l.map octv) w) (h0:a.get 0=d) (h1:a.get 1=x) (hn:4 < n) (hs:n + 3<=a.tmps.size) (hd:jh_ w L K.tU8 d bs) (hL:L<=w.heap.size)
  (hlim:bs.length + l.length<=LIM) (h:∀ a' w' d',a'.defers=a.defers->a'.get 4=d'->Gr L K.tU8 d w d' (bs++l) w'->E a' w'):LW P (gApRest K tX) n (Rt N E) a w:=by
 refine qc_ (qj_ (qd_ (qd_ ?_)))
 refine wl_appendDst wt.oct (d:=d) (x:=x) ?_ ?_ hd hx hL hlim fun d' w' hg=>?_
 ·rw [qb_,gpo (by omega),gpe (by omega)];exact h0
 ·rw [qb_,gpe (by simp only [qa_];omega),qb_,gpo (by omega)];exact h1
 refine qg_ (wpList_nil (qc_ (.ret ?_)))
 exact h _ w' d' (by simp only [qf_]) (by rw [gpe (by simp only [qa_];omega),qb_,gpe (by simp only [qa_];omega)]) hg
theorem ap_txt (wt:WT P K) {f f2 ntmps tX tI L:Nat} {kI:IntKind} {x:Value} {l enc:Bs} {w:World} (hI:P.underlying tI=some (.int kI)) (hx:TxtV P tX x l L w) (hE:Ent P f2) (hc:ApC P K.tU8 f2 (.int kI (kI.wrap l.length)) enc w) (hfn:FnIs P f ntmps [4] (cAStr K tX tI f2)) (hnt:13<=ntmps) :
  ApL P K.tU8 f x (enc++l) w L:=by
 intro d bs hd hL hlim
 rw [List.length_append] at hlim
 refine calls2s wt.mixed hfn (by omega) fun a h0 h1 hs hdf=>?_
 refine qc_ (qj_ (qd_ (qd_ ?_)))
 refine wl_lenAny (hx.len _ _ _ _ _ (by rw [qb_,gpe (by simp only [qa_];omega),qb_,gpo (by omega)];exact h1)) ?_
 refine qw_ (k:=.i64) (k':=kI) (m:=l.length) (by rw [qb_,gpe (by simp only [qa_];omega)]) wt.dInt hI ?_
 refine zx_ hE ?_ (hc L) hd hL (by omega) (by simp only [qa_];omega) fun w1 d1 hg=>wpList_nil ?_
 ·simp only [List.map_cons,List.map_nil,qb_]
  rw [gpo (by omega),gpo (by omega),gpo (by omega),gpe (by omega),gpe (by simp only [qa_];omega),h0]
 refine ap_rest wt (x:=x) (l:=l) (d:=d1) (hx.src w1 (Gr.far hd hg)) ?_ ?_ (by show 4 < 5 + 5;omega) (by simp only [qa_];show 5 + 5 + 3<=_;omega) hg.dst (Nat.le_trans hL hg.keeps.size) (by rw [List.length_append];omega) fun a' w' d' hd' h4 hg'=>⟨?_,gr_ret h4 ?_⟩
 ·rw [gpe (by simp only [qa_];omega)]
 ·rw [gpo (by omega),gpo (by omega),gpo (by omega),gpo (by omega),gpo (by omega),gpo (by omega)];exact h1
 ·rw [hd'];simp only [qf_];exact hdf
 ·rw [<- List.append_assoc];exact hg.trans hg'
theorem ap_ctxt (wt:WT P K) {f f2 ntmps tX L:Nat} {x:Value} {l:Bs} {w:World} (hx:TxtV P tX x l L w) (hE:Ent P f2) (hc:∀ x w,x < 4294967296->ApC P K.tU8 f2 (.int .u32 (x:Nat)) (uvar x) w) (hfn:FnIs P f ntmps [4] (cACStr K tX f2)) (hnt:14<=ntmps) :
  ApL P K.tU8 f x (uvar (w32 (l.length + 1))++l) w L:=by
 intro d bs hd hL hlim
 rw [List.length_append] at hlim
 refine calls2s wt.mixed hfn (by omega) fun a h0 h1 hs hdf=>?_
 refine qc_ (qj_ (qd_ (qd_ ?_)))
 refine wl_lenAny (hx.len _ _ _ _ _ (by rw [qb_,gpe (by simp only [qa_];omega),qb_,gpo (by omega)];exact h1)) ?_
 refine qw_ (k:=.i64) (k':=.u32) (m:=l.length) (by rw [qb_,gpe (by simp only [qa_];omega)]) wt.dInt wt.dU32 ?_
 refine zk_ (k:=.u32) (m:=1) (n:=IntKind.u32.wrap l.length) rfl (by rw [qb_,gpe (by simp only [qa_];omega)]) (by simp) (run_add w) ?_
 rw [u32_succ]
 refine zx_ hE ?_ (hc (w32 (l.length + 1)) w (w32_lt _) L) hd hL (by omega) (by simp only [qa_];omega) fun w1 d1 hg=>wpList_nil ?_
 ·simp only [List.map_cons,List.map_nil,qb_]
  rw [gpo (by omega),gpo (by omega),gpo (by omega),gpo (by omega),gpe (by omega),gpe (by simp only [qa_];omega),h0]
 refine ap_rest wt (x:=x) (l:=l) (d:=d1) (hx.src w1 (Gr.far hd hg)) ?_ ?_ (by show 4 < 5 + 6;omega) (by simp only [qa_];show 5 + 6 + 3<=_;omega) hg.dst (Nat.le_trans hL hg.keeps.size) (by rw [List.length_append];omega) fun a' w' d' hd' h4 hg'=>⟨?_,gr_ret h4 ?_⟩
 ·rw [gpe (by simp only [qa_];omega)]
 ·rw [gpo (by omega),gpo (by omega),gpo (by omega),gpo (by omega),gpo (by omega),gpo (by omega),gpo (by omega)];exact h1
 ·rw [hd'];simp only [qf_];exact hdf
 ·rw [<- List.append_assoc];exact hg.trans hg'
theorem nil_yes {T n f L:Nat} {z c d y:Value} {enc bs:Bs} {r:List GC} {N E:Act->World->Prop} {a:Act} {w:World} (hcmp:∀ (ops:Array Oper) (Q:Exit->Act->World->Prop) (a:Act) (x:Operand) (d:Option Nat),a.eval x=y->wpList P ops Q [] (a.put d (.bool true)) w->wpList P ops Q [mk d (.binOp .eql T x (.const z) 0)] a w)
  (h0:a.get 0=d) (h1:a.get 1=y) (hE:Ent P f) (hc:ApL P K.tU8 f c enc w L) (hn:4 < n) (hs:n + 4<=a.tmps.size) (hd:jh_ w L K.tU8 d bs) (hL:L<=w.heap.size) (hlim:bs.length + enc.length<=LIM)
  (h:∀ a' w' d',a'.defers=a.defers->a'.get 4=d'->Gr L K.tU8 d w d' (bs++enc) w'->E a' w'):LW P (gNilIf T z c f :: r) n (Rt N E) a w:=by
 refine qc_ (z3_ (qd_ ?_))
 refine hcmp _ _ _ _ _ (by rw [qb_,gpe (by omega),qb_];exact h1) (wpList_nil ⟨by rw [qb_,gpe (by simp only [qa_];omega)],?_⟩)
 rw [qr_]
 refine q2_ (qc_ (qj_ (qd_ ?_)))
 refine wl_callRet hE ?_ hc hd hL hlim (by simp only [qa_];omega) (by simp only [qa_];omega) fun a' w' d' hd' h4 hg=>h a' w' d' (by rw [hd'];simp only [qf_]) h4 hg
 simp only [List.map_cons,List.map_nil,qb_]
 rw [gpe (by simp only [qa_];omega),gpo (by omega),gpo (by omega),h0]
 rfl
theorem nil_no {T n f:Nat} {z c y:Value} {r:List GC} {N E:Act->World->Prop} {a:Act} {w:World} (hcmp:∀ (ops:Array Oper) (Q:Exit->Act->World->Prop) (a:Act) (x:Operand) (d:Option Nat),a.eval x=y->wpList P ops Q [] (a.put d (.bool false)) w->wpList P ops Q [mk d (.binOp .eql T x (.const z) 0)] a w)
  (h1:a.get 1=y) (hn:4 < n) (hs:n + 4<=a.tmps.size)
  (h:∀ a',Pv n 0 0 n a a'->LW P r (n + 4) (Rt N E) a' w):LW P (gNilIf T z c f :: r) n (Rt N E) a w:=by
 refine qc_ (z2_ (qd_ ?_))
 refine hcmp _ _ _ _ _ (by rw [qb_,gpe (by omega),qb_];exact h1) (wpList_nil ⟨by rw [qb_,gpe (by simp only [qa_];omega)],.skip ?_⟩)
 exact h _ (((Pv.refl _ _ _ _ _).put _ (.inl rfl)).put _ (.inr (by omega)))
theorem ap_nstr0 (wt:WT P K) {f f1 f2 ntmps tP:Nat} {c:Value} {enc:Bs} {w:World} (hP:P.underlying tP=some (.pointer K.tStr)) (hE:Ent P f1) (hc:ApC P K.tU8 f1 c enc w) (hfn:FnIs P f ntmps [4] (cANStr K tP c f1 f2)) (hnt:14<=ntmps):ApC P K.tU8 f (.pointer none) enc w:=by
 intro L d bs hd hL hlim
 refine calls2s wt.mixed hfn (by omega) fun a h0 h1 hs hdf=>?_
 exact nil_yes (fun ops Q a x d hx h=>wl_ptrNil (m:=none) hP hx h) h0 h1 hE (hc L) (by omega) (by omega) hd hL hlim fun a' w' d' hd' h4 hg=>⟨hd'.trans hdf,gr_ret h4 hg⟩
theorem ap_nstr1 (wt:WT P K) {f f1 f2 ntmps tP:Nat} {c:Value} {enc:Bs} {w:World} {p:Addr} {s:Value} (hP:P.underlying tP=some (.pointer K.tStr)) (hp:w.cell? p=some s) (hE:Ent P f2) (hc:ApC P K.tU8 f2 s enc w) (hfn:FnIs P f ntmps [4] (cANStr K tP c f1 f2)) (hnt:14<=ntmps):ApC P K.tU8 f (.pointer (some p)) enc w:=by
 intro L d bs hd hL hlim
 refine calls2s wt.mixed hfn (by omega) fun a h0 h1 hs hdf=>?_
 refine nil_no (fun ops Q a x d hx h=>wl_ptrNil (m:=some p) hP hx h) h1 (by omega) (by omega) fun a1 hp1=>?_
 have hs1:=hp1.size
 refine qc_ (qj_ (qd_ (qd_ ?_)))
 rw [qb_,qb_,hp1.get 0 (by omega) (by omega),h0,gpo (by omega),hp1.get 1 (by omega) (by omega),h1]
 refine qp_ (p:=p) (by rw [qb_,gpe (by simp only [qa_];omega)]) ?_
 refine q5_ (p:=p) (v:=s) (by rw [qb_,gpe (by simp only [qa_];omega)]) (wt.vStr.agg w) hp ?_
 refine wl_callRet hE ?_ (hc L) hd hL hlim (by simp only [qa_];omega) (by simp only [qa_];omega) fun a' w' d' hd' h4 hg=>⟨?_,gr_ret h4 hg⟩
 ·simp only [List.map_cons,List.map_nil,qb_]
  rw [gpo (by omega),gpo (by omega),gpo (by omega),gpe (by omega),gpe (by simp only [qa_];omega)]
 ·rw [hd'];simp only [qf_];rw [hp1.defers];exact hdf
theorem calls2c (hm:P.follows .mixedOrders=true) {f ntmps:Nat} {c:Code} {y z:Value} {w:World} {RR:Ending->World->Prop} (hfn:FnIs P f ntmps [4] c) (hnt:2<=ntmps)
  (h:∀ a,a.get 0=y->a.get 1=z->a.tmps.size=ntmps->a.defers=[]->NWP P c (Rt (fun _ _=>False) (fun a' w'=>a'.defers=[]/\RR (.returned (a'.get 4)) w')) a w):Calls P f #[y,z] w RR:=by
 refine hfn.calls hm (by simp) ?_
 have:=h { tmps:=#[y,z]++Array.replicate (ntmps - (#[y,z]:Array Value).size) undef,defers:=[] } (by rw [ja_ _ _ _ (by simp)];rfl) (by rw [ja_ _ _ _ (by simp)];rfl) (jo_ #[y,z] ntmps hnt) rfl
 exact rt_mono this (fun _ _ h=>h.elim) (fun a w h=>⟨h.1,h.2⟩)
theorem ap_uuid (wt:WT P K) {f ntmps:Nat} (_hV:jp_ P K.tUuid true 16) (hA:P.underlying K.tUuid=some (.array 16 K.tU8)) (hfn:FnIs P f ntmps [4] (cAUuid K)) (hnt:8<=ntmps) {l:Bs} (hl:l.length=16) (w:World):ApC P K.tU8 f (.agg (l.map octv).toArray) l w:=by
 intro L d bs hd hL hlim
 refine calls2c wt.mixed hfn (by omega) fun a hg0 hg1 hsz' hd0=>?_
 unfold cAUuid
 have hk:Keeps (fun _=>False) w (w.alloc (.cells (l.map octv).toArray K.tUuid (0,0))):=Keeps.alloc _ _ _
 refine qh_ (qj_ (qn_ (v:=.pointer (some ⟨w.heap.size,0,none⟩)) (w':=w.alloc (.cells (l.map octv).toArray K.tUuid (0,0))) ?_ (qg_ (wpList_nil ?_))))
 ·have e1:a.eval (tm 1)=.agg (l.map octv).toArray:=hg1
  simp [execOp,mk,e1,Instr.box,newVar,newRow,newObj,Sem.run,Value.cells]
 refine qh_ (qj_ (qd_ ?_))
 rw [qb_,gpo (by omega),gpo (by omega),hg0]
 refine qn_ (v:=.slice (some ⟨w.heap.size,0,none⟩) 16 16) (w':=w.alloc (.cells (l.map octv).toArray K.tUuid (0,0))) ?_ ?_
 ·have e3:(((a.put (some 3) (.pointer (some ⟨w.heap.size,0,none⟩))).put (some 4) (Act.eval (a.put (some 3) (.pointer (some ⟨w.heap.size,0,none⟩))) (.const nilS))).put (some 5) d).eval (tm 3)=.pointer (some ⟨w.heap.size,0,none⟩):=by
   rw [qb_,gpo (by omega),gpo (by omega),gpe (by omega)]
  obtain ⟨i,z,hi,_,hsz,_⟩:=wt.oct.info
  simp [execOp,mk,e3,Instr.sliceAt,run_underlying hA,Instr.sureAddr,Instr.sliceBounds,sizeOf,typeInfo,hi,Addr.add_lit]
 have hoct:OctAt (w.alloc (.cells (l.map octv).toArray K.tUuid (0,0))) w.heap.size 0 l:=by
  intro j b hj
  have:=qs_ w (.cells (l.map octv).toArray K.tUuid (0,0))
  simp only [World.cell?,this,Nat.zero_add,List.getElem?_toArray,List.getElem?_map,hj]
  rfl
 refine wl_appendDst wt.oct (d:=d) (L:=L) (bs:=bs) (l:=l) ?_ (x:=.slice (some ⟨w.heap.size,0,none⟩) l.length 16) ?_ (hd.keep hk fun _ _ h=>h) (src_oct wt.oct hoct) (by have:=hk.size;omega) hlim fun d' w' hg=>?_
 ·rw [qb_,gpo (by omega),gpe (by simp only [qa_];omega)]
 ·rw [qb_,gpe (by simp only [qa_];omega),hl]
 refine qg_ (wpList_nil (qh_ (.ret ?_)))
 rw [qb_,gpe (by simp only [qa_];omega)]
 exact ⟨by simp only [qf_];exact hd0,gr_ret (gpe (by simp only [qa_];omega)) (Gr.pre hk (fun _ _ h=>h) hg)⟩
end
section
variable {P:Program} {g:GW} {av:PF->Bool} {fl nl:Bool} {te:Nat} {cx:Cx} {fx:Bool} {ver:Int} {L B O m k0 n:Nat} {d:Value} {bs:Bs} {K N E:Act->World->Prop} {Q:Exit->Act->World->Prop} {a:Act} {w:World}
theorem s_wlenA {f v F E' len c:Nat} {base:Option Addr} {enc:Bs} (hE:Ent P f) (hc:ApC P te f (.int .i64 len) enc w) (h1:a.get 1=d) (hv:a.get v=.slice base len c) (hF:P.underlying F=some (.slice E')) (hvn:v < n) (hd:jh_ w L te d bs) (hL:L<=w.heap.size) (hlim:bs.length + enc.length<=LIM) (hm:m<=k0) (hk:k0<=n) (_h1m:1 < n) (hn:n + 4<=a.tmps.size)
  (h:∀ a' w' d',Pv 1 m k0 n a a'->a'.get 1=d'->Gr L te d w d' (bs++enc) w'->K a' w'):NWP P (gwLenA g f v F n).1 (Exit.then K Q) a w:=by
 refine qj_ (qd_ (qd_ (wl_len (base:=base) (n:=len) (c:=c) (by rw [qb_,gpe (by simp only [qa_];omega),qb_,gpo (by omega)];exact hv) hF ?_)))
 refine zx_ hE ?_ (hc L) hd hL hlim (by simp only [qa_];omega) fun w' d' hg=>wpList_nil (h _ w' d' ?_ (gpe (by simp only [qa_];omega)) hg)
 ·simp only [List.map_cons,List.map_nil,qb_]
  rw [gpo (by omega),gpo (by omega),gpe (by omega),gpe (by simp only [qa_];omega),h1]
 ·exact (((((Pv.refl _ _ _ _ _).put _ (by omega)).put _ (by omega)).put _ (by omega)).put _ (by omega)).put _ (.inl rfl)
theorem s_wlenN {f v F E' len c:Nat} {base:Option Addr} {enc:Bs} (hE:Ent P f) (hc:Calls P f #[d,.int .i64 len,.bool base.isNone] w fun e w'=>∃ d',e=.returned d'/\Gr L te d w d' (bs++enc) w') (h1:a.get 1=d) (hv:a.get v=.slice base len c) (hF:P.underlying F=some (.slice E')) (hvn:v < n) (hm:m<=k0) (hk:k0<=n) (_h1m:1 < n) (hn:n + 6<=a.tmps.size)
  (h:∀ a' w' d',Pv 1 m k0 n a a'->a'.get 1=d'->Gr L te d w d' (bs++enc) w'->K a' w'):NWP P (gwLenN g f v F n).1 (Exit.then K Q) a w:=by
 refine qj_ (qd_ (qd_ (wl_len (base:=base) (n:=len) (c:=c) (by rw [qb_,gpe (by simp only [qa_];omega),qb_,gpo (by omega)];exact hv) hF (qd_ ?_))))
 refine wl_slNil (m:=base) (n:=len) (c:=c) hF (by rw [qb_,gpe (by simp only [qa_];omega),qb_,gpo (by omega),gpo (by omega),gpo (by omega)];exact hv) ?_
 refine qv_ (vs:=#[d,.int .i64 len,.bool base.isNone]) hE ?_ hc fun e w' hR=>?_
 ·simp only [List.map_cons,List.map_nil,qb_]
  rw [gpo (by omega),gpo (by omega),gpo (by omega),gpo (by omega),gpe (by omega),gpo (by omega),gpo (by omega),gpe (by simp only [qa_];omega),gpe (by simp only [qa_];omega),h1]
 obtain ⟨d',he,hg⟩:=hR
 refine ⟨d',he,qg_ (wpList_nil (h _ w' d' ?_ ?_ hg))⟩
 ·exact (((((((Pv.refl _ _ _ _ _).put _ (by omega)).put _ (by omega)).put _ (by omega)).put _ (by omega)).put _ (by omega)).put _ (by omega)).put _ (.inl rfl)
 ·rw [gpe (by simp only [qa_];omega),qb_,gpe (by simp only [qa_];omega)]
theorem s_wlenP (K0:KW P g av fl nl te) {v F E' len c:Nat} {base:Option Addr} (hhl:hasLstW g cx.hf=true) (hfl:cx.hf=true->fl=true) (hw:WC cx fx ver te L B O d bs a w) (hc:CxW cx m k0) (hv:a.get v=.slice base len c) (hF:P.underlying F=some (.slice E')) (hvn:v < k0) (hk:k0<=n) (hn:(gwFx cx (gwLenA g g.calen v F) (gwLenA g g.alen v F) n).2<=a.tmps.size)
  (hlim:bs.length + (wCnt fx len).length<=LIM)
  (h:∀ a' w' d',Pv 1 m k0 n a a'->a'.get 1=d'->Gr L te d w d' (bs++wCnt fx len) w'->K a' w'):NWP P (gwFx cx (gwLenA g g.calen v F) (gwLenA g g.alen v F) n).1 (Exit.then K Q) a w:=by
 have hle:=hc.le
 have h1m:=hc.one
 have hfx:fx=true->cx.hf=true:=fun h=>by
  cases hh:cx.hf with
  | true=>rfl
  | false=>rw [hw.nf hh] at h;cases h
 simp only [hasLstW,Bool.and_eq_true,Bool.or_eq_true,Bool.not_eq_true'] at hhl
 have hn2:(gwFx cx (gwLenA g g.calen v F) (gwLenA g g.alen v F) n).2<=a.tmps.size:=hn
 have hn1:n < a.tmps.size:=by
  unfold gwFx at hn2
  split at hn2
  ·have:n + 1 + 4 + 4<=a.tmps.size:=hn2
   omega
  ·have:n + 4<=a.tmps.size:=hn2
   omega
 refine s_wfx (qi_ _ _) (qi_ _ _) hw hc hk hn2 hn1 fun a1 n1 hp1 hg1 hlow hnn hsz=>?_
 have hs1:=hp1.size
 have hv1:a1.get v=.slice base len c:=by rw [hlow v (by omega)];exact hv
 cases fx with
 | true=>
  simp only [if_true] at hsz ⊢
  have hsz':n1 + 4<=a.tmps.size:=hsz
  exact s_wlenA (K0.clE (hfl (hfx rfl)) (hhl.2.resolve_left (by rw [hfx rfl];simp))) (K0.clC (hfl (hfx rfl)) (hhl.2.resolve_left (by rw [hfx rfl];simp)) len w) hg1 hv1 hF (by omega) hw.dst hw.Lw hlim hle (by omega) (by omega) (by omega) fun a' w' d' hp' h1' hg'=>h a' w' d' (hp1.trans (hp'.mono (Nat.le_refl _) hnn)) h1' hg'
 | false=>
  simp only [Bool.false_eq_true,if_false] at hsz ⊢
  have hsz':n1 + 4<=a.tmps.size:=hsz
  exact s_wlenA (K0.alE hhl.1) (K0.alC hhl.1 len w) hg1 hv1 hF (by omega) hw.dst hw.Lw hlim hle (by omega) (by omega) (by omega) fun a' w' d' hp' h1' hg'=>h a' w' d' (hp1.trans (hp'.mono (Nat.le_refl _) hnn)) h1' hg'
theorem s_wlenQ (K0:KW P g av fl nl te) {v F E' len c:Nat} {base:Option Addr} (hnl':nl=true) (hfl:cx.hf=true->fl=true) (hw:WC cx fx ver te L B O d bs a w) (hc:CxW cx m k0) (hv:a.get v=.slice base len c) (hF:P.underlying F=some (.slice E')) (hvn:v < k0) (hk:k0<=n) (hn:(gwFx cx (gwLenN g g.cnalen v F) (gwLenN g g.nalen v F) n).2<=a.tmps.size)
  (hlim:bs.length + (if base.isNone then wNull fx 4 else wCnt fx len).length<=LIM)
  (h:∀ a' w' d',Pv 1 m k0 n a a'->a'.get 1=d'->Gr L te d w d' (bs++(if base.isNone then wNull fx 4 else wCnt fx len)) w'->K a' w'):NWP P (gwFx cx (gwLenN g g.cnalen v F) (gwLenN g g.nalen v F) n).1 (Exit.then K Q) a w:=by
 have hle:=hc.le
 have h1m:=hc.one
 have hfx:fx=true->cx.hf=true:=fun h=>by
  cases hh:cx.hf with
  | true=>rfl
  | false=>rw [hw.nf hh] at h;cases h
 have hn2:(gwFx cx (gwLenN g g.cnalen v F) (gwLenN g g.nalen v F) n).2<=a.tmps.size:=hn
 have hn1:n < a.tmps.size:=by
  unfold gwFx at hn2
  split at hn2
  ·have:n + 1 + 6 + 6<=a.tmps.size:=hn2
   omega
  ·have:n + 6<=a.tmps.size:=hn2
   omega
 refine s_wfx (qi_ _ _) (qi_ _ _) hw hc hk hn2 hn1 fun a1 n1 hp1 hg1 hlow hnn hsz=>?_
 have hs1:=hp1.size
 have hv1:a1.get v=.slice base len c:=by rw [hlow v (by omega)];exact hv
 cases fx with
 | true=>
  simp only [if_true] at hsz ⊢
  have hsz':n1 + 6<=a.tmps.size:=hsz
  exact s_wlenN (K0.cnE hnl' (hfl (hfx rfl))) (K0.cnC hnl' (hfl (hfx rfl)) len base.isNone w L d bs hw.dst hw.Lw hlim) hg1 hv1 hF (by omega) hle (by omega) (by omega) (by omega) fun a' w' d' hp' h1' hg'=>h a' w' d' (hp1.trans (hp'.mono (Nat.le_refl _) hnn)) h1' hg'
 | false=>
  simp only [Bool.false_eq_true,if_false] at hsz ⊢
  have hsz':n1 + 6<=a.tmps.size:=hsz
  exact s_wlenN (K0.nlE hnl') (K0.nlC hnl' len base.isNone w L d bs hw.dst hw.Lw hlim) hg1 hv1 hF (by omega) hle (by omega) (by omega) (by omega) fun a' w' d' hp' h1' hg'=>h a' w' d' (hp1.trans (hp'.mono (Nat.le_refl _) hnn)) h1' hg'
theorem s_wlen (K0:KW P g av fl nl te) {nul:Option Nat} {v F E' len c:Nat} {base:Option Addr} (hnl:nul.isSome=true->nl=true) (hhl:nul ≠ some 0->hasLstW g cx.hf=true) (hfl:cx.hf=true->fl=true) (hw:WC cx fx ver te L B O d bs a w) (hc:CxW cx m k0) (hv:a.get v=.slice base len c) (hF:P.underlying F=some (.slice E')) (hvn:v < k0) (hk:k0<=n) (hn:(gwLen g cx nul v F n).2<=a.tmps.size)
  (hlim:bs.length + (if zm_ nul ver && base.isNone then wNull fx 4 else wCnt fx len).length<=LIM)
  (h:∀ a' w' d',Pv 1 m k0 n a a'->a'.get 1=d'->Gr L te d w d' (bs++(if zm_ nul ver && base.isNone then wNull fx 4 else wCnt fx len)) w'->K a' w'):NWP P (gwLen g cx nul v F n).1 (Exit.then K Q) a w:=by
 have hle:=hc.le
 have h1m:=hc.one
 match nul with
 | none=>
  simp only [zm_,Bool.false_and,Bool.false_eq_true,if_false] at hlim h
  exact s_wlenP K0 (hhl (by simp)) hfl hw hc hv hF hvn hk hn hlim h
 | some 0=>
  simp only [zm_,decide_true,Bool.true_or,Bool.true_and] at hlim h
  exact s_wlenQ K0 (hnl rfl) hfl hw hc hv hF hvn hk hn hlim h
 | some (q + 1)=>
  have e0:zm_ (some (q + 1)) ver=decide (((q + 1:Nat):Int)<=ver):=by simp [zm_]
  rw [e0] at hlim h
  have hn2:(gwFx cx (gwLenA g g.calen v F) (gwLenA g g.alen v F) (gwFx cx (gwLenN g g.cnalen v F) (gwLenN g g.nalen v F) (n + 2)).2).2<=a.tmps.size:=hn
  have hupN:n + 2 + 6<=(gwFx cx (gwLenN g g.cnalen v F) (gwLenN g g.nalen v F) (n + 2)).2:=by
   unfold gwFx
   split
   ·show n + 2 + 6<=n + 2 + 1 + 6 + 6
    omega
   ·show n + 2 + 6<=n + 2 + 6
    omega
  generalize hnq:(gwFx cx (gwLenN g g.cnalen v F) (gwLenN g g.nalen v F) (n + 2)).2=nq at hn2 hupN
  have hupA:nq + 4<=(gwFx cx (gwLenA g g.calen v F) (gwLenA g g.alen v F) nq).2:=by
   unfold gwFx
   split
   ·show nq + 4<=nq + 1 + 4 + 4
    omega
   ·show nq + 4<=nq + 4
    omega
  have hsv:=hw.sv
  have hcv:=hc.ver
  have head:∀ (b:Bool) (X:Act->World->Prop),b=decide (((q + 1:Nat):Int)<=ver)->(∀ a1,Pv 1 m k0 n a a1->a1.get 1=d->a1.get v=.slice base len c->a1.tmps.size=a.tmps.size->WC cx fx ver te L B O d bs a1 w->X a1 w) ->
    wpList P ([mk (some n) (.move (tm cx.ver)),mk (some (n + 1)) (.binOp .geq g.tVer (tm n) (ki .i16 ((q + 1:Nat):Int)) 0)]:List Oper).toArray (Exit.then (fun a' w'=>a'.eval (tm (n + 1))=.bool b/\X a' w') (Exit.then K Q)) [mk (some n) (.move (tm cx.ver)),mk (some (n + 1)) (.binOp .geq g.tVer (tm n) (ki .i16 ((q + 1:Nat):Int)) 0)] a w:=by
   intro b X hb hX
   refine qd_ ?_
   rw [qb_,hsv]
   refine q9_ (b:=b) (p:=ver) (q:=((q + 1:Nat):Int)) (k:=.i16) (by rw [qb_,gpe (by omega)]) rfl (.inl ⟨rfl,hb⟩) (wpList_nil ⟨?_,?_⟩)
   ·rw [qb_,gpe (by simp only [qa_];omega)]
   have hp:Pv 1 m k0 n a ((a.put (some n) (.int .i16 ver)).put (some (n + 1)) (.bool b)):=((Pv.refl _ _ _ _ _).put _ (by omega)).put _ (by omega)
   have hg1:((a.put (some n) (.int .i16 ver)).put (some (n + 1)) (.bool b)).get 1=d:=by rw [gpo (by omega),gpo (by omega)];exact hw.s1
   exact hX _ hp hg1 (by rw [gpo (by omega),gpo (by omega)];exact hv) (by simp only [qa_]) (hw.step hc hp hg1 (Gr.refl hw.dst))
  cases hb:decide (((q + 1:Nat):Int)<=ver) with
  | true=>
   rw [hb] at hlim h
   simp only [Bool.true_and] at hlim h
   refine z3_ (head true _ hb.symm fun a1 hp1 hg1 hv1 hs1 hw1=>?_)
   exact s_wlenQ K0 (hnl rfl) hfl hw1 hc hv1 hF hvn (by omega) (by rw [hnq,hs1];omega) hlim fun a' w' d' hp' h1' hg'=>h a' w' d' (hp1.trans (hp'.mono (Nat.le_refl _) (by omega))) h1' hg'
  | false=>
   rw [hb] at hlim h
   simp only [Bool.false_and,Bool.false_eq_true,if_false] at hlim h
   refine z2_ (head false _ hb.symm fun a1 hp1 hg1 hv1 hs1 hw1=>?_)
   rw [hnq]
   exact s_wlenP K0 (hhl (by simp)) hfl hw1 hc hv1 hF hvn (by omega) (by rw [hs1];exact hn2) hlim fun a' w' d' hp' h1' hg'=>h a' w' d' (hp1.trans (hp'.mono (Nat.le_refl _) (by omega))) h1' hg'
theorem s_wtags (K0:KW P g av fl nl te) {T kt _off F sz:Nat} {agg:Bool} {t:List (Nat × Bs)} {toff:Option Nat} {rest:List GC} (hfl:cx.hf=true->fl=true) (hw:WC cx fx ver te L B O d bs a w) (hc:CxW cx m k0) (hk:k0<=n) (hn:(gL (gwTags g cx T kt) n).2<=a.tmps.size)
  (htoff:match toff with | some o=>cx.hf=true/\zj_ P T kt F o agg sz | none=>cx.hf=false) (ht:TgAt w (fun k=>L<=k) B O toff t) (hlim:bs.length + (jn_ fx t).length<=LIM)
  (h:∀ a' w' d',Pv 1 m k0 n a a'->a'.get 1=d'->Gr L te d w d' (bs++jn_ fx t) w'->LW P rest (gL (gwTags g cx T kt) n).2 Q a' w'):LW P (gwTags g cx T kt++rest) n Q a w:=by
 have hle:=hc.le
 have h1m:=hc.one
 have hsm:=hc.s
 cases toff with
 | none=>
  have hf:cx.hf=false:=htoff
  have hfx:=hw.nf hf
  subst hfx
  obtain rfl:t=[]:=ht
  have e:gwTags g cx T kt=[]:=by simp [gwTags,hf]
  rw [e] at hn h ⊢
  exact h a w d (Pv.refl _ _ _ _ _) hw.s1 (by simpa [jn_] using Gr.refl hw.dst)
 | some o=>
  obtain ⟨hf,hF⟩:=htoff
  obtain ⟨mm,hmm,htg⟩:=ht
  have hfl':=hfl hf
  have e:gwTags g cx T kt=[gFx cx (gS [gwTagLen g cx.s T kt,xj_ g cx.s T kt]) jk_]:=by simp [gwTags,hf]
  rw [e] at hn h ⊢
  have hn':n + 1 + 8 + 5<=a.tmps.size:=hn
  refine qc_ (s_fx (x:=n) (m:=m) (k0:=k0) (hw.sf hf) hle hk (by omega) fun a1 hp1=>?_)
  have hp1':Pv 1 m k0 n a a1:=⟨hp1.size,hp1.defers,fun s hs hs2=>hp1.get s (by omega) hs2⟩
  have hs1:=hp1.size
  have hg1:a1.get 1=d:=by rw [hp1.get 1 (by omega) (.inl h1m)];exact hw.s1
  have hss:a1.get cx.s=pt B O:=by rw [hp1.get _ (by omega) (.inl hsm.1)];exact hw.ss
  cases fx with
  | false=>
   simp only [Bool.false_eq_true,if_false]
   exact .skip (h a1 w d hp1' hg1 (by simpa [jn_] using Gr.refl hw.dst))
  | true=>
   simp only [if_true]
   have hlen:(jn_ true t).length=(uvar (w32 t.length)).length + (qz_ t).length:=by simp [jn_]
   rw [hlen] at hlim
   refine q2_ (qc_ (qj_ (qd_ (qd_ ?_))))
   rw [qb_,hg1,qb_,gpo (by omega),hss]
   refine qp_ (by rw [qb_,gpe (by simp only [qa_];omega)];rfl) ?_
   refine ju_ (by rw [qb_,gpe (by simp only [qa_];omega)]) hF ?_
   refine qv_ (vs:=#[pt B (O + o)]) (K0.tlE hfl') ?_ (K0.tlC hfl' w B (O + o) mm _ t hmm htg) fun e2 w2 hR=>⟨_,hR.1,?_⟩
   ·simp only [List.map_cons,List.map_nil,qb_]
    rw [gpe (by simp only [qa_];omega)]
    rfl
   have hk2:=hR.2
   refine qw_ (k:=.i64) (k':=.u32) (m:=t.length) (by rw [qb_,gpe (by simp only [qa_];omega)]) K0.dInt (K0.dU32 hfl') ?_
   refine zk_ (k:=.u32) (m:=0) (n:=IntKind.u32.wrap t.length) rfl (by rw [qb_,gpe (by simp only [qa_];omega)]) (by simp) (run_add w2) ?_
   have hwr:IntKind.u32.wrap (0 + IntKind.u32.wrap (t.length:Int))=(w32 t.length:Nat):=by simp [IntKind.wrap,IntKind.bits,IntKind.signed,w32]
   rw [hwr]
   refine zx_ (K0.uvE hfl') ?_ (K0.uvC hfl' (w32 t.length) w2 (w32_lt _) L) (hw.dst.keep hk2 fun _ _ h=>h) (Nat.le_trans hw.Lw hk2.size) (by omega) (by simp only [qa_];omega) fun w3 d3 hg3=>wpList_nil ?_
   ·simp only [List.map_cons,List.map_nil,qb_]
    rw [gpo (by omega),gpo (by omega),gpo (by omega),gpo (by omega),gpo (by omega),gpo (by omega),gpe (by omega),gpe (by simp only [qa_];omega)]
   have hg03:Gr L te d w d3 (bs++uvar (w32 t.length)) w3:=Gr.pre hk2 (fun _ _ h=>h) hg3
   have hfar:=Gr.far hw.dst hg03
   have hmm3:w3.cell? ⟨B,O + o,none⟩=some mm:=hfar.cell (by have:=hw.BL;omega) hmm
   have htg3:=htg.keep hfar
   have key:∀ (a2:Act),Pv 1 m k0 n a a2->a2.get 1=d3->a2.get cx.s=pt B O->LW P [xj_ g cx.s T kt] (n + 1 + 8) (Exit.then (LW P rest (gL [gFx cx (gS [gwTagLen g cx.s T kt,xj_ g cx.s T kt]) jk_] n).2 Q) Q) a2 w3:=by
    intro a2 hp2 hg2 hss2
    have hs2:=hp2.size
    refine qc_ (qj_ (qd_ ?_))
    rw [qb_,hss2]
    refine qp_ (by rw [qb_,gpe (by omega)];rfl) ?_
    refine ju_ (by rw [qb_,gpe (by simp only [qa_];omega)]) hF (qd_ ?_)
    rw [qb_,gpo (by omega),gpo (by omega),gpo (by omega),hg2]
    refine qv_ (vs:=#[pt B (O + o),d3]) (K0.teE hfl') ?_ (K0.teC hfl' w3 B (O + o) mm L t d3 _ hmm3 (hg03.dst.away hw.BL (Nat.le_trans hw.Lw hg03.keeps.size)) htg3 hg03.dst (Nat.le_trans hw.Lw hg03.keeps.size) (by rw [List.length_append];omega)) fun e4 w4 hR4=>?_
    ·simp only [List.map_cons,List.map_nil,qb_]
     rw [gpo (by omega),gpe (by simp only [qa_];omega),gpe (by simp only [qa_];omega)]
     rfl
    obtain ⟨d4,he4,hg4⟩:=hR4
    refine ⟨d4,he4,qg_ (wpList_nil (q0_ (h _ w4 d4 ?_ ?_ ?_)))⟩
    ·exact hp2.trans ((((((Pv.refl _ _ _ _ _).put _ (by omega)).put _ (by omega)).put _ (by omega)).put _ (by omega)).put _ (by omega) |>.put _ (.inl rfl))
    ·rw [gpe (by simp only [qa_];omega),qb_,gpe (by simp only [qa_];omega)]
    ·have:=hg03.trans hg4
     simpa [jn_,List.append_assoc] using this
   refine key _ ?_ (gpe (by simp only [qa_];omega)) ?_
   ·exact hp1'.trans (((((((((Pv.refl _ _ _ _ _).put _ (by omega)).put _ (by omega)).put _ (by omega)).put _ (by omega)).put _ (by omega)).put _ (by omega)).put _ (by omega)).put _ (by omega) |>.put _ (.inl rfl))
   ·have hs1':=hsm.1
    have hs2':=hsm.2
    rw [gpo (by omega),gpo (by omega),gpo (by omega),gpo (by omega),gpo (by omega),gpo (by omega),gpo (by omega),gpo (by omega),gpo (by omega)];exact hss
end
def k32 (k:Nat):Value:=.int .u32 (k:Int)
structure TeT (P:Program) (tKs tU:Nat):Prop where
 sl:P.underlying tKs=some (.slice tU)
 info:∃ i z,P.info? tU=some i/\i.zero=some z/\i.size=1/\i.bytes=4/\z.cells.size=1
 vU:jp_ P tU false 1
 dU:P.underlying tU=some (.int .u32)
def TeAt (w:World) (L tU:Nat) (v:Value) (ks:List Nat):Prop:=
 (v=.slice none 0 0/\ks=[]) \/ ∃ (g c:Nat) (cur:Array Value),v=.slice (some ⟨g,0,none⟩) ks.length c/\L<=g/\w.heap[g]?=some (.cells cur tU (0,0))/\ks.length<=c/\c<=maxLen/\c<=cur.size/\∀ (j k:Nat),ks[j]?=some k->cur[j]?=some (k32 k)
section
variable {P:Program} {tKs tU L:Nat} {v:Value} {ks:List Nat} {w w':World}
theorem TeAt.own (h:TeAt w L tU v ks) {j:Nat} (hj:v.ownBlock=some j):L<=j/\j < w.heap.size:=by
 rcases h with ⟨rfl,_⟩ | ⟨g,c,cur,rfl,h1,h2,_⟩
 ·simp [Value.ownBlock] at hj
 ·simp only [Value.ownBlock,Option.some.injEq] at hj
  subst hj
  exact ⟨h1,(Array.getElem?_eq_some_iff.1 h2).1⟩
theorem TeAt.keep {X:Nat->Prop} (h:TeAt w L tU v ks) (hk:Keeps X w w') (hx:∀ j,v.ownBlock=some j->¬ X j):TeAt w' L tU v ks:=by
 rcases h with h | ⟨g,c,cur,rfl,h1,h2,h3⟩
 ·exact .inl h
 ·exact .inr ⟨g,c,cur,rfl,h1,by rw [hk.block g (Array.getElem?_eq_some_iff.1 h2).1 (hx g rfl)];exact h2,h3⟩
theorem TeAt.form (h:TeAt w L tU v ks):∃ base c,v=.slice base ks.length c:=by
 rcases h with ⟨rfl,rfl⟩ | ⟨g,c,cur,rfl,_⟩
 ·exact ⟨none,0,rfl⟩
 ·exact ⟨_,_,rfl⟩
theorem run_append_te (T:TeT P tKs tU) {ty:TypeId} {x:Value} {k:Nat} (hd:TeAt w L tU v ks) (hs:Src P 1 tKs x 1 [k32 k] w) (hL:L<=w.heap.size) (hlim:ks.length<=1000) :
  ∃ v' w',(Builtin.append_ #[tKs,tKs] ty #[v,x]).run P w=.ok v' w'/\TeAt w' L tU v' (ks++[k])/\Keeps (fun j=>v.ownBlock=some j) w w'/\∀ j,v'.ownBlock=some j->v.ownBlock=some j \/ w.heap.size<=j:=by
 obtain ⟨i,z,hi,hz,hsz,hby,hzs⟩:=T.info
 have ht:=T.sl
 have hs':Src P i.size tKs x 1 [k32 k] w:=by rw [hsz];exact hs
 have grown:∀ (base:Option Addr) (old:Nat),old < ks.length + 1->(Builtin.firstCells i.size ks.length (.slice base ks.length old)).run P w.drew=.ok (ks.map k32).toArray w.drew ->
   ∃ v' w',(Builtin.append_ #[tKs,tKs] ty #[.slice base ks.length old,x]).run P w=.ok v' w'/\TeAt w' L tU v' (ks++[k])/\Keeps (fun _=>False) w w'/\∀ j,v'.ownBlock=some j->w.heap.size<=j:=by
  intro base old ho hold
  have hr:=run_append_grow_src (P:=P) w tKs tKs ty tU i z ht hi hz base ks.length old (ks.map k32) hold x 1 [k32 k] hs' ho (by omega) (growslice_fits ho (by rw [hby];omega))
  refine ⟨_,_,hr,?_⟩
  have hge:=grownCap_ge w (ks.length + 1) old tU
  have hcm:grownCap w (ks.length + 1) old tU<=maxLen:=grownCap_le_maxLen w _ old tU (by simp only [maxLen];omega)
  refine ⟨.inr ⟨w.heap.size,_,_,by rw [List.length_append];rfl,hL,Go.heap_alloc_new w.drew _,by rw [List.length_append];exact hge,hcm,?_,?_⟩,⟨rfl,rfl,rfl,by simp,fun k hk _=>q4_ (w:=w.drew) hk⟩,fun j hj=>?_⟩
  ·simp only [Array.size_append,List.size_toArray,size_zeroCells,hzs,List.length_append,List.length_map,List.length_cons,List.length_nil]
   omega
  ·intro j u hj
   have hjl:j < (ks++[k]).length:=(List.getElem?_eq_some_iff.1 hj).1
   rw [Array.getElem?_append_left (by simp only [List.size_toArray,List.length_append,List.length_map];rw [List.length_append] at hjl;exact hjl)]
   rw [List.getElem?_toArray,show ks.map k32++[k32 k]=(ks++[k]).map k32 by simp,List.getElem?_map,hj]
   rfl
  ·simp only [Value.ownBlock,Option.some.injEq] at hj
   subst hj
   exact Nat.le_refl _
 rcases hd with ⟨rfl,rfl⟩ | ⟨g,c,cur,rfl,hgL,hg,hnc,hcm,hcs,hat⟩
 ·obtain ⟨v',w',h1,h2,h3,h4⟩:=grown none 0 (by simp) (by simp [Builtin.firstCells])
  exact ⟨v',w',h1,h2,h3.mono fun _ _ h=>h.elim,fun j hj=>.inr (h4 j hj)⟩
 ·by_cases hroom:ks.length + 1<=c
  ·have hst:=run_storeCells_at P g ks.length tU [k32 k] 0 cur w hg (by simp only [List.length_cons,List.length_nil];omega) hs.one
   simp only [Nat.add_zero] at hst
   have hr:(Builtin.append_ #[tKs,tKs] ty #[.slice (some ⟨g,0,none⟩) ks.length c,x]).run P w=.ok (.slice (some ⟨g,0,none⟩) (ks.length + 1) c) (w.setRow g (qt_ cur ks.length [k32 k])):=by
    rcases hs.kind with ⟨e',hk⟩ | hk <;> simp [Builtin.append_,run_underlying ht,sizeOf,typeInfo,hi,hsz,hs.len,hroom,hs.cells,Addr.add_lit,hst,qt_]
   refine ⟨_,_,hr,.inr ⟨g,c,_,by rw [List.length_append];rfl,hgL,setRow_heap _ _ _ _ _ _ hg,by rw [List.length_append];exact hroom,hcm,?_,?_⟩,Keeps.setRow _ _ _ _ rfl,fun j hj=>.inl hj⟩
   ·rw [z9_ (by simp only [List.length_cons,List.length_nil];omega)];exact hcs
   ·intro j u hj
    by_cases hjb:j < ks.length
    ·rw [zn_ (by simp only [List.length_cons,List.length_nil];omega) j (.inl hjb)]
     rw [List.getElem?_append_left hjb] at hj
     exact hat j u hj
    ·rw [List.getElem?_append_right (by omega)] at hj
     have:=jw_ (cur:=cur) (o:=ks.length) (vs:=[k32 k]) (by simp only [List.length_cons,List.length_nil];omega) (j - ks.length) (by have:=(List.getElem?_eq_some_iff.1 hj).1;exact this)
     rw [show ks.length + (j - ks.length)=j by omega] at this
     rw [this]
     have h0:j - ks.length=0:=by have:=(List.getElem?_eq_some_iff.1 hj).1;simp at this;omega
     rw [h0] at hj ⊢
     simp at hj ⊢
     rw [hj]
  ·obtain ⟨v',w',h1,h2,h3,h4⟩:=grown (some ⟨g,0,none⟩) c (by omega) (by
    have:=run_loadCells_list (P:=P) w.drew ⟨g,0,none⟩ (ks.map k32) (fun j u hj=>by
     rw [List.getElem?_map,Option.map_eq_some_iff] at hj
     obtain ⟨b,hb,rfl⟩:=hj
     rw [Addr.add_lit]
     have hg':w.drew.heap[g]?=some (.cells cur tU (0,0)):=hg
     simp [World.cell?,hg',hat j b hb])
    simp only [List.length_map] at this
    simp [Builtin.firstCells,hsz,this])
   exact ⟨v',w',h1,h2,h3.mono fun _ _ h=>h.elim,fun j hj=>.inr (h4 j hj)⟩
theorem wl_build1 (T:TeT P tKs tU) {ops:Array Oper} {Q:Exit->Act->World->Prop} {r:List Oper} {a:Act} {d:Option Nat} {k:Nat} (h:wpList P ops Q r (a.put d (.slice (some ⟨w.heap.size,0,none⟩) 1 1)) (w.alloc (.cells #[k32 k] tU (0,0)))) :
  wpList P ops Q (mk d (.buildSlice tKs 1 #[(0,ki .u32 k)]) :: r) a w:=by
 obtain ⟨i,z,hi,hz,hsz,_⟩:=T.info
 refine qn_ (w':=w.alloc (.cells #[k32 k] tU (0,0))) ?_ h
 have hfill:=fill_one [k32 k] 0 ((Array.range 1).map fun k=>z.cells[k % z.cells.size]!) (fun v hv=>by
  simp only [List.mem_singleton] at hv
  subst hv
  rfl) (by simp)
 rw [zu_ (by simp)] at hfill
 simp [prs] at hfill
 have hy:a.eval (ki .u32 (k:Int))=k32 k:=rfl
 simp [execOp,mk,Instr.buildSlice,run_underlying T.sl,sizeOf,typeInfo,zeroValue,hi,hz,hsz,hy,hfill,newRow,newObj,Sem.run]
variable {m k0 n:Nat} {K E:Act->World->Prop} {Q:Exit->Act->World->Prop} {a:Act}
theorem s_put (T:TeT P tKs tU) {te k:Nat} (hte:a.get te=v) (hv:TeAt w L tU v ks) (hL:L<=w.heap.size) (hlim:ks.length<=1000) (hsl:m<=te/\te < k0) (hk:k0<=n) (hn:n + 3<=a.tmps.size)
  (h:∀ a' w' v',Pv te m k0 n a a'->a'.get te=v'->TeAt w' L tU v' (ks++[k])->Keeps (fun j=>v.ownBlock=some j) w w'->(∀ j,v'.ownBlock=some j->v.ownBlock=some j \/ w.heap.size<=j)->K a' w') :
  NWP P (gwPut tKs te k n).1 (Exit.then K Q) a w:=by
 refine qj_ (qd_ (wl_build1 T ?_))
 rw [qb_,hte]
 have hk1:Keeps (fun _=>False) w (w.alloc (.cells #[k32 k] tU (0,0))):=Keeps.alloc _ _ _
 have hb1:(w.alloc (.cells #[k32 k] tU (0,0))).heap[w.heap.size]?=some (.cells #[k32 k] tU (0,0)):=heap_alloc_new w _
 have hs1:w.heap.size<=(w.alloc (.cells #[k32 k] tU (0,0))).heap.size:=hk1.size
 have hv1:TeAt (w.alloc (.cells #[k32 k] tU (0,0))) L tU v ks:=hv.keep hk1 fun _ _ h=>h
 have hsrc:Src P 1 tKs (.slice (some ⟨w.heap.size,0,none⟩) 1 1) 1 [k32 k] (w.alloc (.cells #[k32 k] tU (0,0))):=Src.ofSlice _ T.sl ⟨w.heap.size,0,none⟩ 1 1 _ rfl (fun q u hq=>by
  rw [Addr.add_lit]
  cases q with
  | zero=>
   simp only [List.getElem?_cons_zero,Option.some.injEq] at hq
   subst hq
   simp only [World.cell?,Nat.add_zero]
   rw [hb1]
   rfl
  | succ q=>simp at hq) (fun u hu=>by simp only [List.mem_singleton] at hu;subst hu;rfl)
 obtain ⟨v',w',hr,h2,h3,h4⟩:=run_append_te (ty:=tKs) T hv1 hsrc (Nat.le_trans hL hs1) hlim
 refine wl_bltn (v:=v') (w':=w') (by
  have e1:((a.put (some n) v).put (some (n + 1)) (.slice (some ⟨w.heap.size,0,none⟩) 1 1)).eval (tm n)=v:=by rw [qb_,gpo (by omega),gpe (by omega)]
  have e2:((a.put (some n) v).put (some (n + 1)) (.slice (some ⟨w.heap.size,0,none⟩) 1 1)).eval (tm (n + 1))=.slice (some ⟨w.heap.size,0,none⟩) 1 1:=by rw [qb_,gpe (by simp only [qa_];omega)]
  simp [execOp,bi,resolve,invoke,builtin,e1,e2,hr]) (qg_ (wpList_nil (h _ w' v' ?_ ?_ h2 ((hk1.mono fun _ _ h=>h.elim).trans h3) fun j hj=>?_)))
 ·exact ((((Pv.refl _ _ _ _ _).put _ (by omega)).put _ (by omega)).put _ (by omega)).put _ (.inl rfl)
 ·rw [gpe (by simp only [qa_];omega),qb_,gpe (by simp only [qa_];omega)]
 ·rcases h4 j hj with h | h
  ·exact .inl h
  ·exact .inr (Nat.le_trans hs1 h)
end
section
variable {P:Program} {g:GW} {av:PF->Bool} {fl nl:Bool} {te:Nat} {L m k0 n:Nat} {d:Value} {bs:Bs} {K E:Act->World->Prop} {Q:Exit->Act->World->Prop} {a:Act} {w:World}
structure Sx (x y mB k0 n:Nat) (a a':Act):Prop where
 size:a'.tmps.size=a.tmps.size
 defers:a'.defers=a.defers
 get:∀ i,i ≠ x->i ≠ y->(i < mB \/ (k0<=i/\i < n))->a'.get i=a.get i
theorem Sx.refl (x y mB k0 n:Nat) (a:Act):Sx x y mB k0 n a a:=⟨rfl,rfl,fun _ _ _ _=>rfl⟩
theorem Sx.trans {x y mB k0 n:Nat} {a b c:Act} (h:Sx x y mB k0 n a b) (k:Sx x y mB k0 n b c):Sx x y mB k0 n a c:=
 ⟨k.size.trans h.size,k.defers.trans h.defers,fun i hx hy hi=>(k.get i hx hy hi).trans (h.get i hx hy hi)⟩
theorem Sx.put {x y mB k0 n d:Nat} {a b:Act} (h:Sx x y mB k0 n a b) (v:Value) (hd:d=x \/ d=y \/ (mB<=d/\d < k0) \/ (mB<=d/\n<=d)):Sx x y mB k0 n a (b.put (some d) v):=
 ⟨by rw [qa_];exact h.size,by rw [qf_];exact h.defers,fun i hx hy hi=>by rw [gpo (by omega)];exact h.get i hx hy hi⟩
theorem Sx.of_pv {x y mB k0 n:Nat} {a b:Act} (h:Pv x mB k0 n a b):Sx x y mB k0 n a b:=⟨h.size,h.defers,fun i hx _ hi=>h.get i hx hi⟩
theorem Sx.mono {x y mB k0 n mB' n':Nat} {a b:Act} (h:Sx x y mB k0 n a b) (hm:mB'<=mB) (hn:n'<=n):Sx x y mB' k0 n' a b:=⟨h.size,h.defers,fun i hx hy hi=>h.get i hx hy (by omega)⟩
theorem rt_up {Q:Exit->Act->World->Prop} (hK:∀ a w,K a w->Q .normal a w) (hE:∀ a w,E a w->Q .ret a w):∀ e a w,Rt K E e a w->Q e a w:=by
 intro e a w h
 cases e <;> first | exact hK _ _ h | exact hE _ _ h | exact h.elim
theorem s_uv (K0:KW P g av fl nl te) (hfl:fl=true) {x:Nat} (hx:x < 4294967296) (h1:a.get 1=d) (hd:jh_ w L te d bs) (hL:L<=w.heap.size) (hlim:bs.length + (uvar x).length<=LIM) (hm:m<=k0) (hk:k0<=n) (h1m:1 < m) (hn:n + 2<=a.tmps.size)
  (h:∀ a' w' d',Pv 1 k0 k0 n a a'->a'.get 1=d'->Gr L te d w d' (bs++uvar x) w'->K a' w'):NWP P (gwUv g x n).1 (Exit.then K Q) a w:=by
 refine qj_ (qd_ (zx_ (K0.uvE hfl) ?_ (K0.uvC hfl x w hx L) hd hL hlim (by simp only [qa_];omega) fun w' d' hg=>wpList_nil (h _ w' d' ?_ (gpe (by simp only [qa_];omega)) hg)))
 ·simp only [List.map_cons,List.map_nil,qb_]
  rw [gpe (by omega),h1]
  rfl
 ·exact (((Pv.refl _ _ _ _ _).put _ (by omega)).put _ (by omega)).put _ (.inl rfl)
theorem ld_assign {d:Option Nat} {x:Operand} {v:Value} {K:Act->World->Prop} {Q':Exit->Act->World->Prop} (hx:a.eval x=v) (h:K (a.put d v) w):(mk d (.assign x)).wp P a w K Q':=by
 have:(execOp a.eval (mk d (.assign x))).run P w=.ok (.value v) w:=by simp [execOp,mk,hx]
 unfold Oper.wp
 rw [this]
 exact h
theorem ld_not {d:Option Nat} {T:Nat} {x:Operand} {b:Bool} {K:Act->World->Prop} {Q':Exit->Act->World->Prop} (hx:a.eval x=.bool b) (h:K (a.put d (.bool !b)) w):(mk d (.unOp .not T x)).wp P a w K Q':=by
 have:(execOp a.eval (mk d (.unOp .not T x))).run P w=.ok (.value (.bool !b)) w:=by simp [execOp,mk,hx,Op.unary]
 unfold Oper.wp
 rw [this]
 exact h
theorem jh_.form (h:jh_ w L te d bs):∃ base c,d=.slice base bs.length c/\bs.length<=c/\∀ p,base=some p->p.spot=none:=by
 rcases h with ⟨rfl,rfl⟩ | ⟨g,c,cur,rfl,_,_,h,_⟩
 ·exact ⟨none,0,rfl,Nat.le_refl _,fun p hp=>by cases hp⟩
 ·exact ⟨_,c,rfl,h,fun p hp=>by cases hp;rfl⟩
theorem jh_.cut {base:Option Addr} {c k:Nat} {b1 b2:Bs} (h:jh_ w L te (.slice base (b1++b2).length c) (b1++b2)) (hk:k=b1.length):jh_ w L te (.slice base k c) b1:=by
 subst hk
 rcases h with ⟨h1,h2⟩ | ⟨g,c',cur,h1,h2,h3,h4,h5,h6,h7⟩
 ·obtain ⟨rfl,rfl⟩:=List.append_eq_nil_iff.1 h2
  simp only [Value.slice.injEq] at h1
  obtain ⟨rfl,_,rfl⟩:=h1
  exact .inl ⟨rfl,rfl⟩
 ·simp only [Value.slice.injEq] at h1
  obtain ⟨rfl,_,rfl⟩:=h1
  refine .inr ⟨g,c,cur,rfl,h2,h3,by rw [List.length_append] at h4;omega,h5,h6,fun i x hi=>h7 i x ?_⟩
  rw [List.getElem?_append_left (List.getElem?_eq_some_iff.1 hi).1]
  exact hi
theorem rx_sliceTo {F E' m c i d:Nat} {x y:Operand} {base:Option Addr} (hx:a.eval x=.slice base m c) (hy:a.eval y=.int .i64 (i:Nat)) (hF:P.underlying F=some (.slice E')) (hs:∀ w,(sizeOf E').run P w=.ok 1 w) (hi:i<=m) (hm:m<=c) (hb:∀ p,base=some p->p.spot=none):(execOp a.eval (mk (some d) (.slice F x none (some y) none))).run P w=.ok (.value (.slice base i c)) w:=by
 have h3:i<=c:=Nat.le_trans hi hm
 cases base with
 | none=>simp [execOp,mk,hx,hy,Instr.sliceAt,Instr.slice,run_underlying hF,Instr.sliceBounds,Instr.sliceBound,asIntOf,hs,h3]
 | some p=>
  have:=hb p rfl
  obtain ⟨b,o,s⟩:=p
  simp only at this
  subst this
  simp [execOp,mk,hx,hy,Instr.sliceAt,Instr.slice,run_underlying hF,Instr.sliceBounds,Instr.sliceBound,asIntOf,hs,h3,Addr.add]
theorem rx_sliceFrom {F E' m c i d:Nat} {x y:Operand} {base:Option Addr} (hx:a.eval x=.slice base m c) (hy:a.eval y=.int .i64 (i:Nat)) (hF:P.underlying F=some (.slice E')) (hs:∀ w,(sizeOf E').run P w=.ok 1 w) (hi:i<=m):(execOp a.eval (mk (some d) (.slice F x (some y) none none))).run P w=.ok (.value (.slice (if c=i then base else base.map fun q=>q.add (i * 1)) (m - i) (c - i))) w:=by
 simp [execOp,mk,hx,hy,Instr.sliceAt,Instr.slice,run_underlying hF,Instr.sliceBounds,Instr.sliceBound,asIntOf,hs,hi]
theorem s_back0 (K0:KW P g av fl nl te) (hfl:fl=true) {z lenAt l tB mB:Nat} {b1 enc:Bs} (hz:a.get z=.bool false) (hla:a.get lenAt=.int .i64 (b1.length:Nat)) (h1:a.get 1=d) (hd:jh_ w L te d (b1++enc)) (hL:L<=w.heap.size) (hlim:b1.length + (uvar (w32 enc.length)).length<=LIM) (h1m:1 < k0)
  (hzl:z < k0/\lenAt < k0/\z ≠ lenAt/\z ≠ 1/\lenAt ≠ 1) (hmB:mB<=k0) (hk:k0<=n) (hn:n + 11<=a.tmps.size)
  (h:∀ a' w' d',Sx 1 z mB k0 n a a'->a'.get z=.bool true->a'.get 1=d'->Gr L te d w d' (b1++uvar (w32 enc.length)) w'->Q (.goto l) a' w'):NWP P (zs_ g z lenAt l tB n).1 Q a w:=by
 obtain ⟨base,c,hform,hlc,hspot⟩:=hd.form
 obtain ⟨i8,z8,hi8,hz8,hsz8,_⟩:=K0.oct.info
 have hs8:∀ w,(sizeOf te).run P w=.ok 1 w:=fun w=>by simp [sizeOf,typeInfo,hi8,hsz8]
 have hle:b1.length<=(b1++enc).length:=by rw [List.length_append];omega
 have hdc:jh_ w L te (.slice base b1.length c) b1:=by rw [hform] at hd;exact hd.cut rfl
 have hel:(b1++enc).length - b1.length=enc.length:=by rw [List.length_append];omega
 refine z3_ (qd_ ?_)
 rw [qb_,hz]
 refine wl_not (b:=false) (by rw [qb_,gpe (by omega)]) (wpList_nil ⟨by rw [qb_,gpe (by simp only [qa_];omega)];rfl,q2_ (qc_ ?_)⟩)
 have hS0:Sx 1 z mB k0 n a ((a.put (some n) (.bool false)).put (some (n + 1)) (.bool !false)):=((Sx.refl _ _ _ _ _ _).put _ (by omega)).put _ (by omega)
 have hA1:((a.put (some n) (.bool false)).put (some (n + 1)) (.bool !false)).get 1=d:=by rw [gpo (by omega),gpo (by omega)];exact h1
 have hAl:((a.put (some n) (.bool false)).put (some (n + 1)) (.bool !false)).get lenAt=.int .i64 (b1.length:Nat):=by rw [gpo (by omega),gpo (by omega)];exact hla
 generalize (a.put (some n) (.bool false)).put (some (n + 1)) (.bool !false)=A at hS0 hA1 hAl ⊢
 have hAs:=hS0.size
 have hLo:xd_ [mk (some (n + 2)) (.move (tm 1)),mk (some (n + 2 + 1)) (.move (tm lenAt)),mk (some (n + 2 + 2)) (.slice g.tSl (tm (n + 2)) none (some (tm (n + 2 + 1))) none),mk (some (n + 2 + 3)) (.move (tm 1)),mk (some (n + 2 + 4)) (.move (tm lenAt)),mk (some (n + 2 + 5)) (.slice g.tSl (tm (n + 2 + 3)) (some (tm (n + 2 + 4))) none none),
   bi (some (n + 2 + 6)) .len [tm (n + 2 + 5)] [g.tSl] g.tInt,mk (some (n + 2 + 7)) (.convert g.tInt g.tU32 (tm (n + 2 + 6))),cl (some (n + 2 + 8)) g.uv [tm (n + 2 + 2),tm (n + 2 + 7)],mk (some 1) (.assign (tm (n + 2 + 8)))]=[false,false,false,false,false,false,false,false,true,true]:=by
  simp [xd_,acts,mk,cl,bi,rdsOf,Op.operands,tm]
 refine .drw (fun _=>True) ?_
 rw [hLo]
 simp only [xc_,j9_]
 have hw32:IntKind.u32.wrap ((enc.length:Nat):Int)=((w32 enc.length:Nat):Int):=by simp [IntKind.wrap,IntKind.bits,IntKind.signed,w32]
 have mv:∀ (a:Act) (q x:Nat) (v:Value) (w:World),a.get x=v->(execOp a.eval (mk (some q) (.move (tm x)))).run P w=.ok (.value v) w:=fun a q x v w hx=>by
  have:a.eval (tm x)=v:=hx
  simp [execOp,mk,this]
 refine ⟨d,fun w _=>mv _ _ _ _ _ hA1,.int .i64 (b1.length:Nat),fun w _=>mv _ _ _ _ _ (by simp only [mk];rw [gpo (by omega)];exact hAl),.slice base b1.length c,fun w _=>?_,d,fun w _=>mv _ _ _ _ _ ?_,.int .i64 (b1.length:Nat),fun w _=>mv _ _ _ _ _ ?_,
  .slice (if c=b1.length then base else base.map fun q=>q.add (b1.length * 1)) ((b1++enc).length - b1.length) (c - b1.length),fun w _=>?_,.int .i64 (enc.length:Nat),fun w _=>?_,.int .u32 ((w32 enc.length:Nat):Int),fun w _=>?_,?_⟩
 ·refine rx_sliceTo (m:=(b1++enc).length) ?_ ?_ K0.oct.und hs8 hle hlc hspot
  ·simp only [mk];rw [qb_,gpo (by omega),gpe (by omega),hform]
  ·simp only [mk];rw [qb_,gpe (by simp only [qa_];omega)]
 ·simp only [mk];rw [gpo (by omega),gpo (by omega),gpo (by omega)];exact hA1
 ·simp only [mk];rw [gpo (by omega),gpo (by omega),gpo (by omega),gpo (by omega)];exact hAl
 ·refine rx_sliceFrom (m:=(b1++enc).length) ?_ ?_ K0.oct.und hs8 hle
  ·simp only [mk];rw [qb_,gpo (by omega),gpe (by simp only [qa_];omega),hform]
  ·simp only [mk];rw [qb_,gpe (by simp only [qa_];omega)]
 ·have e:∀ B:Act,B.get (n + 2 + 5)=.slice (if c=b1.length then base else base.map fun q=>q.add (b1.length * 1)) ((b1++enc).length - b1.length) (c - b1.length)->(execOp B.eval (bi (some (n + 2 + 6)) .len [tm (n + 2 + 5)] [g.tSl] g.tInt)).run P w=.ok (.value (.int .i64 (enc.length:Nat))) w:=fun B hB=>by
   have:B.eval (tm (n + 2 + 5))=_:=hB
   simp [execOp,bi,resolve,invoke,builtin,Builtin.len_,this,run_underlying K0.oct.und,goInt]
  exact e _ (by simp only [mk];rw [gpe (by simp only [qa_];omega)])
 ·have e:∀ B:Act,B.get (n + 2 + 6)=.int .i64 (enc.length:Nat)->(execOp B.eval (mk (some (n + 2 + 7)) (.convert g.tInt g.tU32 (tm (n + 2 + 6))))).run P w=.ok (.value (.int .u32 ((w32 enc.length:Nat):Int))) w:=fun B hB=>by
   have:B.eval (tm (n + 2 + 6))=_:=hB
   simp [execOp,mk,this,convert,run_underlying K0.dInt,run_underlying (K0.dU32 hfl),Conv.intToInt,hw32]
  exact e _ (by simp only [bi];rw [gpe (by simp only [qa_];omega)])
 ·simp only [mk,bi]
  have hkd:Keeps (fun _=>False) w w.drew:=Keeps.drew _ _
  refine ⟨trivial,wp_callK (vs:=#[.slice base b1.length c,.int .u32 ((w32 enc.length:Nat):Int)]) rfl (K0.uvE hfl) ?_ (K0.uvC hfl (w32 enc.length) w.drew (w32_lt _) L _ b1 (hdc.keep hkd fun _ _ h=>h) (Nat.le_trans hL hkd.size) hlim) fun e w1 hR=>?_⟩
  ·simp only [List.map_cons,List.map_nil,qb_]
   rw [gpo (by omega),gpo (by omega),gpo (by omega),gpo (by omega),gpo (by omega),gpe (by simp only [qa_];omega),gpe (by simp only [qa_];omega)]
  ·obtain ⟨d',rfl,hg⟩:=hR
   refine ⟨d',rfl,trivial,ld_assign (v:=d') (by rw [qb_,gpe (by simp only [qa_];omega)]) ⟨trivial,?_⟩⟩
   show LW P [ji_ z (.bool true),q3_ (.goto l)] _ Q _ w1
   have hg':Gr L te d w d' (b1++uvar (w32 enc.length)) w1:=by
    have:=Gr.pre hkd (fun _ _ h=>h) hg
    have eo:d.ownBlock=(Value.slice base b1.length c).ownBlock:=by rw [hform];cases base <;> rfl
    exact ⟨this.dst,this.keeps.mono (fun k _ hk=>by rw [eo];exact hk),fun k hk=>by rw [eo];exact this.own k hk⟩
   refine qc_ (qj_ (qg_ (wpList_nil (qc_ (.goto (h _ w1 d' ?_ (gpe (by simp only [qa_];omega)) ?_ hg'))))))
   ·exact ((((((((((hS0.put _ (by omega)).put _ (by omega)).put _ (by omega)).put _ (by omega)).put _ (by omega)).put _ (by omega)).put _ (by omega)).put _ (by omega)).put _ (by omega)).put _ (by omega)).put _ (by omega)
   ·rw [gpo (by omega),gpe (by simp only [qa_];omega)]
theorem s_back1 {z lenAt l tB:Nat} (hz:a.get z=.bool true) (_hzl:z < n) (hk:k0<=n) (hn:n + 2<=a.tmps.size) (h:∀ a',Pv 1 k0 k0 n a a'->(∀ i,i < n->a'.get i=a.get i)->Q .normal a' w):NWP P (zs_ g z lenAt l tB n).1 Q a w:=by
 refine z2_ (qd_ ?_)
 rw [qb_,hz]
 refine wl_not (b:=true) (by rw [qb_,gpe (by omega)]) (wpList_nil ⟨by rw [qb_,gpe (by simp only [qa_];omega)];rfl,.skip (h _ ?_ fun i hi=>?_)⟩)
 ·exact ((Pv.refl _ _ _ _ _).put _ (by omega)).put _ (by omega)
 ·rw [gpo (by omega),gpo (by omega)]
theorem findLabel_sq {l:Nat} {r:List Code} (hr:r ≠ []):∀ cs:List Code,(∀ c ∈ cs,findLabel c l=none)->findLabel (sq (cs++.label l :: r)) l=some (.seq .skip (sq r))
 | [],_=>by
  cases r with
  | nil=>exact absurd rfl hr
  | cons x r=>simp [sq,findLabel]
 | c :: cs,h=>by
  have ih:=findLabel_sq hr cs fun x hx=>h x (by simp [hx])
  have hc:=h c (by simp)
  cases hcs:cs++.label l :: r with
  | nil=>simp at hcs
  | cons y ys=>
   rw [hcs] at ih
   simp only [List.cons_append,hcs,sq,findLabel,hc]
   exact ih
theorem s_scope {l:Nat} {pre body:List GC} (hpre:∀ c ∈ (gL pre n).1,findLabel c l=none) (hne:(gL body (gL pre n).2).1 ≠ []) (h:LW P (pre++(q3_ (.label l) :: body)) n (Exit.jump l (fun a w=>LW P body (gL pre n).2 (Rt K E) a w) (Rt K E)) a w) :
  NWP P (gScope (pre++(q3_ (.label l) :: body)) n).1 (Rt K E) a w:=by
 have e:(gS (pre++(q3_ (.label l) :: body)) n).1=sq ((gL pre n).1++.label l :: (gL body (gL pre n).2).1):=by
  simp only [gS,qx_]
  rfl
 show NWP P (.scope (gS (pre++(q3_ (.label l) :: body)) n).1) (Rt K E) a w
 refine .scope l (fun a w=>LW P body (gL pre n).2 (Rt K E) a w) (fun _ _=>0) (rest:=.seq .skip (sq (gL body (gL pre n).2).1)) (by rw [e];exact findLabel_sq hne _ hpre) h fun a w hJ=>?_
 refine .seq (R:=Rt (fun a' w'=>a'=a/\w'=w) fun _ _=>False) (.skip ⟨rfl,rfl⟩) (fun a' w' hh=>?_) (fun e a w he hq=>by cases e <;> first | exact absurd rfl he | exact hq.elim)
 obtain ⟨rfl,rfl⟩:=hh
 refine NWP.mono hJ fun e a w hq=>?_
 cases e <;> first | exact hq | exact hq.elim
theorem s_sized (K0:KW P g av fl nl te) (hfl:fl=true) {z lenAt l tB m0 mB:Nat} {body:List GC} {enc:Bs} (h1:a.get 1=d) (hd:jh_ w L te d bs) (hL:L<=w.heap.size) (hlim:bs.length + ((uvar (w32 enc.length)).length + enc.length)<=LIM) (hm0:1 < m0/\m0<=z/\m0<=lenAt) (hzl:z < mB/\lenAt < mB/\z ≠ lenAt) (hmB:mB<=k0) (hk:k0<=n)
  (hup:UpL body) (hn:(gL (body++[zs_ g z lenAt l tB]) (n + 2)).2<=a.tmps.size)
  (hbody:∀ (a':Act) (w':World) (d':Value) (bs':Bs) (K':Act->World->Prop),Sx 1 z m0 k0 n a a'->a'.get 1=d'->Gr L te d w d' bs' w'->bs'.length + enc.length<=LIM->(∀ a'' w'' d'',Pv 1 mB k0 (n + 2) a' a''->a''.get 1=d''->Gr L te d' w' d'' (bs'++enc) w''->K' a'' w'')->LW P body (n + 2) (Rt K' E) a' w')
  (h:∀ a' w' d',Sx 1 z m0 k0 n a a'->a'.get 1=d'->Gr L te d w d' (bs++(uvar (w32 enc.length)++enc)) w'->K a' w') :
  LW P ([ji_ z (.bool false),qu_ 2 fun n=>[mk (some n) (.move (tm 1)),bi (some (n + 1)) .len [tm n] [g.tSl] g.tInt,mk (some lenAt) (.assign (tm (n + 1)))],q3_ (.label l)]++(body++[zs_ g z lenAt l tB])) n (Exit.jump l (fun a w=>LW P (body++[zs_ g z lenAt l tB]) (n + 2) (Rt K E) a w) (Rt K E)) a w:=by
 have hn':(gL body (n + 2)).2 + 11<=a.tmps.size:=by rw [qx_] at hn;exact hn
 have hu:=hup (n + 2)
 obtain ⟨base,c,hform,_,_⟩:=hd.form
 refine qc_ (qj_ (qg_ (wpList_nil ?_)))
 show LW P _ n _ (a.put (some z) (.bool false)) w
 refine qc_ (qj_ (qd_ ?_))
 rw [qb_,gpo (by omega),h1,hform]
 refine wl_len (base:=base) (n:=bs.length) (c:=c) (by rw [qb_,gpe (by simp only [qa_];omega)]) K0.oct.und (qg_ (wpList_nil ?_))
 rw [qb_,gpe (by simp only [qa_];omega)]
 have hS:Sx 1 z m0 k0 n a ((((a.put (some z) (.bool false)).put (some n) (.slice base bs.length c)).put (some (n + 1)) (.int .i64 bs.length)).put (some lenAt) (.int .i64 bs.length)):=((((Sx.refl _ _ _ _ _ _).put _ (by omega)).put _ (by omega)).put _ (by omega)).put _ (by omega)
 have g1:((((a.put (some z) (.bool false)).put (some n) (.slice base bs.length c)).put (some (n + 1)) (.int .i64 bs.length)).put (some lenAt) (.int .i64 bs.length)).get 1=d:=by
  rw [gpo (by omega),gpo (by omega),gpo (by omega),gpo (by omega)];exact h1
 have gz:((((a.put (some z) (.bool false)).put (some n) (.slice base bs.length c)).put (some (n + 1)) (.int .i64 bs.length)).put (some lenAt) (.int .i64 bs.length)).get z=.bool false:=by
  rw [gpo (by omega),gpo (by omega),gpo (by omega),gpe (by omega)]
 have gl:((((a.put (some z) (.bool false)).put (some n) (.slice base bs.length c)).put (some (n + 1)) (.int .i64 bs.length)).put (some lenAt) (.int .i64 bs.length)).get lenAt=.int .i64 (bs.length:Nat):=gpe (by simp only [qa_];omega)
 show LW P _ (n + 2) _ ((((a.put (some z) (.bool false)).put (some n) (.slice base bs.length c)).put (some (n + 1)) (.int .i64 bs.length)).put (some lenAt) (.int .i64 bs.length)) w
 generalize (((a.put (some z) (.bool false)).put (some n) (.slice base bs.length c)).put (some (n + 1)) (.int .i64 bs.length)).put (some lenAt) (.int .i64 bs.length)=a2 at hS g1 gz gl ⊢
 have hs2:=hS.size
 refine qc_ (.label ?_)
 show LW P (body++[zs_ g z lenAt l tB]) (n + 2) _ a2 w
 refine z5_ (NWP.mono (hbody a2 w d bs (fun a3 w3=>LW P [zs_ g z lenAt l tB] (gL body (n + 2)).2 (Exit.jump l (fun a w=>LW P (body++[zs_ g z lenAt l tB]) (n + 2) (Rt K E) a w) (Rt K E)) a3 w3) hS g1 (Gr.refl hd) (by omega) fun a3 w3 d3 hp3 h13 hg3=>?_) (rt_up (fun _ _ h=>h) (fun _ _ h=>h)))
 have hs3:=hp3.size
 have z3:a3.get z=.bool false:=(hp3.get z (by omega) (.inl (by omega))).trans gz
 have l3:a3.get lenAt=.int .i64 (bs.length:Nat):=(hp3.get lenAt (by omega) (.inl (by omega))).trans gl
 have hL3:L<=w3.heap.size:=Nat.le_trans hL hg3.keeps.size
 refine qc_ (s_back0 K0 hfl (b1:=bs) (enc:=enc) (mB:=mB) z3 l3 h13 hg3.dst hL3 (by omega) (by omega) (by omega) hmB (by omega) (by omega) fun a4 w4 d4 hS4 hz4 h14 hg4=>?_)
 have hs4:=hS4.size
 have hg04:Gr L te d w d4 (bs++uvar (w32 enc.length)) w4:=hg3.trans hg4
 have hS04:Sx 1 z m0 k0 n a a4:=(hS.trans ((Sx.of_pv hp3).mono (by omega) (by omega))).trans (hS4.mono (by omega) (by omega))
 refine ⟨rfl,?_⟩
 show LW P (body++[zs_ g z lenAt l tB]) (n + 2) (Rt K E) a4 w4
 refine z5_ ?_
 rw [qr_]
 refine hbody a4 w4 d4 _ _ hS04 h14 hg04 (by rw [List.length_append];omega) fun a5 w5 d5 hp5 h15 hg5=>?_
 have hs5:=hp5.size
 have z5:a5.get z=.bool true:=(hp5.get z (by omega) (.inl (by omega))).trans hz4
 refine qc_ (s_back1 (k0:=k0) z5 (by omega) (by omega) (by omega) fun a6 hp6 hlow6=>q0_ (h a6 w5 d5 ?_ ((hlow6 1 (by omega)).trans h15) ?_))
 ·exact (hS04.trans ((Sx.of_pv hp5).mono (by omega) (by omega))).trans ⟨hp6.size,hp6.defers,fun i _ _ hi=>hlow6 i (by omega)⟩
 ·rw [<- List.append_assoc]
  exact hg04.trans hg5
end
def sliceB (P:Program) (F:Nat):Bool:=match P.underlying F with | some (.slice _)=>true | _=>false
def pinB:Prim->Bool
 | .bool=>false
 | .uuid=>false
 | _=>true
def plainP:Ty->Option (Option Prim)
 | .prim p=>if pinB p then some (some p) else none
 | .str none=>some none
 | _=>none
def fdsP:Fds->Option (List (Nat × Option Prim × Int))
 | .nil=>some []
 | .cons lo hi tag df off ty r=>if decide (lo=0) && hi.isNone && tag.isNone then (match plainP ty,fdsP r with | some p,some l=>some ((off,p,df) :: l) | _,_=>none) else none
def covB (sz o:Nat) (ds:List (Nat × Option Prim × Int)):Bool:=decide (o < sz) && ds.all (fun q=>decide (q.1 < sz)) && (List.range sz).all fun j=>j == o || ds.any fun q=>q.1 == j
def smIs (s:Sm) (nm:Nm) (o:Nat) (fs:Fds):Bool:=s.fDef == nm.n 7 && s.fSame == nm.n 8 && s.F == nm.n 3 && s.toff == o && (match fdsP fs with | some l=>l == s.ds | none=>false) && covB s.sz o s.ds
def smB (g:GW) (nm:Nm) (o:Nat) (fs:Fds):Bool:=g.sm.any fun s=>smIs s nm o fs
def arrB (P:Program) (F:Nat):Bool:=match P.underlying F with
 | some (.array n E)=>n == 16 && varB P E false 1 && (P.cellsOf E == 1 && (P.info? E).isSome) && (match P.underlying E with | some (.int .u8)=>true | _=>false) && !P.eqGuardType P.depth F
 | _=>false
def okCondW (P:Program) (av:PF->Bool) (g:GW) (T off:Nat) (ty:Ty) (nm:Nm):Bool:=nm.n 1 == T && (match ty with
 | .prim p=>if p=.uuid then av .uuid && nm.n 3 == g.tUuid && fldB P T (nm.n 2) (nm.n 3) off true 16 && arrB P (nm.n 3) else pinB p && fldB P T (nm.n 2) (nm.n 3) off false 1
 | .str (some _)=>fldB P T (nm.n 2) (nm.n 3) off false 1 && ptrB P (nm.n 3)
 | .list _ _ _=>fldB P T (nm.n 2) (nm.n 3) off false 1 && sliceB P (nm.n 3)
 | .struct none (some o) fs=>fldB P T (nm.n 2) (nm.n 3) off true (sizeT P (nm.n 3)) && smB g nm o fs
 | _=>false)
def PRp (ty:Ty) (y:Value) (v:V):Prop:=∀ (w:World) (X:Nat->Prop),LRp w X ty [y] v
def BoxF (f:Nat->Option Value):Fds->List V->Prop
 | .nil,vs=>vs=[]
 | .cons _ _ _ _ off ty r,vs=>∃ y v vs',vs=v :: vs'/\f off=some y/\PRp ty y v/\BoxF f r vs'
theorem fdsP_cons {lo:Nat} {hi tag:Option Nat} {df:Int} {off:Nat} {ty:Ty} {r:Fds} {l:List (Nat × Option Prim × Int)} (h:fdsP (.cons lo hi tag df off ty r)=some l):lo=0/\hi=none/\tag=none/\∃ p l',plainP ty=some p/\fdsP r=some l'/\l=(off,p,df) :: l':=by
 simp only [fdsP] at h
 split at h
 ·rename_i hc
  simp only [Bool.and_eq_true,decide_eq_true_eq,Option.isNone_iff_eq_none] at hc
  split at h
  ·rename_i p l' hp hl
   exact ⟨hc.1.1,hc.1.2,hc.2,p,l',hp,hl,(Option.some.inj h).symm⟩
  ·cases h
 ·cases h
theorem plain_prp {w:World} {X:Nat->Prop} {ty:Ty} {p:Option Prim} {cs:List Value} {v:V} (h:plainP ty=some p) (hl:LRp w X ty cs v):∃ y,cs=[y]/\PRp ty y v/\pvShape p y/\∀ df,leafDf ty df v=pvEq p df y:=by
 cases ty with
 | prim q=>
  simp only [plainP] at h
  split at h
  ·rename_i hq
   obtain rfl:=Option.some.inj h
   cases q
   case bool=>cases hq
   case uuid=>cases hq
   all_goals
    obtain ⟨x,rfl,rfl,hf⟩:=hl
    exact ⟨_,rfl,fun w X=>⟨x,rfl,rfl,hf⟩,⟨x,rfl⟩,fun df=>rfl⟩
  ·cases h
 | str nul=>
  cases nul with
  | none=>
   obtain rfl:=Option.some.inj h
   obtain ⟨l,rfl,rfl,hf⟩:=hl
   exact ⟨_,rfl,fun w X=>⟨l,rfl,rfl,hf⟩,⟨l,rfl⟩,fun df=>by simp [leafDf,V.octets,pvEq]⟩
  | some _=>cases h
 | bytes _=>cases h
 | list _ _ _=>cases h
 | struct _ _ _=>cases h
theorem rp_pl {w:World} {X:Nat->Prop} {ty:Ty} {p:Option Prim} {b o:Nat} {v:V} (h:plainP ty=some p) (hr:Rp w X ty b o v):∃ cs,qy_ w b o cs/\LRp w X ty cs v:=by
 cases ty with
 | prim q=>exact hr
 | str nul=>exact hr
 | bytes _=>cases h
 | list _ _ _=>cases h
 | struct _ _ _=>cases h
theorem boxF_of {w:World} {X:Nat->Prop} {b o:Nat}:∀ (fs:Fds) (vs:List V) (l:List (Nat × Option Prim × Int)),fdsP fs=some l->RpF w X fs b o vs->BoxF (fun j=>w.cell? ⟨b,o + j,none⟩) fs vs
 | .nil,vs,l,_,h=>h
 | .cons lo hi tag df off ty r,vs,l,hl,h=>by
  obtain ⟨_,_,_,p,l',hp,hr,rfl⟩:=fdsP_cons hl
  obtain ⟨v,vs',rfl,hv,hrs⟩:=h
  obtain ⟨cs,hc,hlr⟩:=rp_pl hp hv
  obtain ⟨y,rfl,h1,_,_⟩:=plain_prp hp hlr
  exact ⟨y,v,vs',rfl,by simpa using hc 0 y rfl,h1,boxF_of r vs' l' hr hrs⟩
theorem boxF_ds {f:Nat->Option Value} (w:World):∀ (fs:Fds) (vs:List V) (l:List (Nat × Option Prim × Int)),fdsP fs=some l->BoxF f fs vs->(∀ q ∈ l,∃ y,f q.1=some y/\pvShape q.2.1 y)/\fldsDf fs vs=l.all fun q=>pvEq q.2.1 q.2.2 ((f q.1).getD undef)
 | .nil,vs,l,hl,_=>by
  obtain rfl:=Option.some.inj hl
  exact ⟨fun q hq=>by simp at hq,by simp [fldsDf]⟩
 | .cons lo hi tag df off ty r,vs,l,hl,h=>by
  obtain ⟨_,_,_,p,l',hp,hr,rfl⟩:=fdsP_cons hl
  obtain ⟨y,v,vs',rfl,hy,hpr,hrs⟩:=h
  obtain ⟨i1,i2⟩:=boxF_ds w r vs' l' hr hrs
  obtain ⟨y',e,_,hs,hd⟩:=plain_prp hp (hpr w fun _=>False)
  simp only [List.cons.injEq,and_true] at e
  subst e
  refine ⟨fun q hq=>?_,?_⟩
  ·rcases List.mem_cons.1 hq with rfl | hq
   ·exact ⟨y,hy,hs⟩
   ·exact i1 q hq
  ·simp only [fldsDf,List.headD_cons,List.tail_cons,List.all_cons,hy,Option.getD_some,hd,i2]
theorem boxF_in {f f':Nat->Option Value} {sz:Nat} (h:∀ j y,f j=some y->j < sz->f' j=some y):∀ (fs:Fds) (vs:List V) (l:List (Nat × Option Prim × Int)),fdsP fs=some l->(∀ q ∈ l,q.1 < sz)->BoxF f fs vs->BoxF f' fs vs
 | .nil,_,_,_,_,hb=>hb
 | .cons lo hi tag df off ty r,vs,l,hl,hlt,hb=>by
  obtain ⟨_,_,_,p,l',hp,hr,rfl⟩:=fdsP_cons hl
  obtain ⟨y,v,vs',rfl,hy,hpr,hrs⟩:=hb
  exact ⟨y,v,vs',rfl,h off y hy (hlt _ (List.mem_cons_self ..)),hpr,boxF_in h r vs' l' hr (fun q hq=>hlt q (List.mem_cons_of_mem _ hq)) hrs⟩
theorem pvShape_one {p:Option Prim} {y:Value} (h:pvShape p y):y.oneCell'=true:=by
 cases p with
 | none=>obtain ⟨l,rfl⟩:=h;rfl
 | some q=>obtain ⟨x,rfl⟩:=h;rfl
theorem bx_cells {w:World} {X:Nat->Prop} {B O sz o:Nat} {fs:Fds} {ds:List (Nat × Option Prim × Int)} {v:V} (hds:fdsP fs=some ds) (hcov:covB sz o ds=true) (hr:Rp w X (.struct none (some o) fs) B O v) :
  ∃ (cs:List Value) (m:Option Nat) (vs:List V) (t:List (Nat × Bs)),v=.st vs t/\cs.length=sz/\qy_ w B O cs/\(∀ u ∈ cs,u.oneCell'=true)/\cs[o]?=some (.map m)/\(m.isNone=t.isEmpty)/\TgRp w X (.map m) t/\BoxF (fun j=>cs[j]?) fs vs:=by
 obtain ⟨vs,t,rfl,hrf,ht⟩:=hr
 obtain ⟨mm,hmm,htg⟩:=ht
 have hbx:=boxF_of fs vs ds hds hrf
 obtain ⟨hsh,_⟩:=boxF_ds w fs vs ds hds hbx
 simp only [covB,Bool.and_eq_true,decide_eq_true_eq,List.all_eq_true,List.mem_range,Bool.or_eq_true,beq_iff_eq,List.any_eq_true] at hcov
 obtain ⟨⟨ho,hlt⟩,hall⟩:=hcov
 obtain ⟨m,rfl,hmt⟩:∃ m,mm=.map m/\m.isNone=t.isEmpty:=by
  rcases htg with ⟨rfl,rfl⟩ | ⟨r,rfl,_,_,_,hne⟩
  ·exact ⟨none,rfl,rfl⟩
  ·exact ⟨some r,rfl,by cases t with | nil=>exact absurd rfl hne | cons _ _=>rfl⟩
 have hcell:∀ j,j < sz->∃ y,w.cell? ⟨B,O + j,none⟩=some y/\y.oneCell'=true:=fun j hj=>by
  rcases hall j hj with rfl | ⟨q,hq,rfl⟩
  ·exact ⟨_,hmm,rfl⟩
  ·obtain ⟨y,hy,hs⟩:=hsh q hq
   exact ⟨y,hy,pvShape_one hs⟩
 have hget:∀ j y,w.cell? ⟨B,O + j,none⟩=some y->j < sz->((List.range sz).map fun j=>(w.cell? ⟨B,O + j,none⟩).getD undef)[j]?=some y:=fun j y hy hj=>by
  rw [List.getElem?_map,List.getElem?_range hj,Option.map_some,hy];rfl
 refine ⟨(List.range sz).map fun j=>(w.cell? ⟨B,O + j,none⟩).getD undef,m,vs,t,rfl,by simp,fun j c hj=>?_,fun u hu=>?_,hget o _ hmm ho,hmt,htg,?_⟩
 ·have hjl:j < sz:=by have:=(List.getElem?_eq_some_iff.1 hj).1;simpa using this
  obtain ⟨y,hy,_⟩:=hcell j hjl
  rw [hget j y hy hjl] at hj
  rw [hy,Option.some.inj hj]
 ·obtain ⟨j,hj,rfl⟩:=List.mem_map.1 hu
  obtain ⟨y,hy,h1⟩:=hcell j (List.mem_range.1 hj)
  rw [hy];exact h1
 ·-- each field's place is one of the part's
  exact boxF_in (sz:=sz) (fun j y hy hj=>hget j y hy hj) fs vs ds hds (fun q hq=>by simpa using hlt q hq) hbx
theorem smB_ok {g:GW} {nm:Nm} {o:Nat} {fs:Fds} (h:smB g nm o fs=true):∃ s ∈ g.sm,s.fDef=nm.n 7/\s.fSame=nm.n 8/\s.F=nm.n 3/\s.toff=o/\fdsP fs=some s.ds/\covB s.sz o s.ds=true:=by
 simp only [smB,List.any_eq_true] at h
 obtain ⟨s,hs,h⟩:=h
 simp only [smIs,Bool.and_eq_true,beq_iff_eq] at h
 obtain ⟨⟨⟨⟨⟨h1,h2⟩,h3⟩,h4⟩,h5⟩,h6⟩:=h
 refine ⟨s,hs,h1,h2,h3,h4,?_,h6⟩
 split at h5
 ·rename_i l hl
  rw [hl,eq_of_beq h5]
 ·cases h5
section
variable {P:Program}
theorem part_oct {e:Nat} (hV:jp_ P e false 1) {l:List Value} {j:Nat} {v:Value} (h:l[j]?=some v) (w:World):(part e l.toArray j).run P w=.ok v w:=by
 simp [part,hV.agg w,h]
theorem run_eqItems_oct {e d:Nat} (hV:jp_ P e false 1) (hk:P.underlying e=some (.int .u8)) (a b:Bs) (w:World):∀ is:List Nat,(∀ j ∈ is,j < a.length/\j < b.length)->(Op.eqItems (d + 1) e 1 (a.map octv).toArray (b.map octv).toArray is).run P w=.ok (is.all fun j=>a[j]? == b[j]?) w
 | [],_=>by simp [Op.eqItems]
 | j :: is,h=>by
  obtain ⟨h1,h2⟩:=h j (List.mem_cons_self ..)
  have ih:=run_eqItems_oct (d:=d) hV hk a b w is fun j hj=>h j (List.mem_cons_of_mem _ hj)
  have p1:=part_oct hV (l:=a.map octv) (j:=j) (v:=octv a[j]) (by rw [List.getElem?_map,List.getElem?_eq_getElem h1];rfl) w
  have p2:=part_oct hV (l:=b.map octv) (j:=j) (v:=octv b[j]) (by rw [List.getElem?_map,List.getElem?_eq_getElem h2];rfl) w
  have p3:=run_equalIn_int (P:=P) w d e .u8 .u8 (a[j].toNat:Int) (b[j].toNat:Int) hk
  simp only [Op.eqItems,Nat.mul_one,Sem.run_bind,p1,p2,Result.andThen_ok,octv,p3,List.all_cons]
  have e1:((a[j].toNat:Int) == (b[j].toNat:Int))=(a[j]? == b[j]?):=by
   rw [List.getElem?_eq_getElem h1,List.getElem?_eq_getElem h2,Bool.eq_iff_iff]
   simp only [beq_iff_eq,Option.some.injEq,Int.natCast_inj,UInt8.toNat_inj]
  rw [e1]
  cases hq:(a[j]? == b[j]?) with
  | false=>simp
  | true=>simpa using ih
theorem arrB_ok {F:Nat} (h:arrB P F=true):∃ E i,P.underlying F=some (.array 16 E)/\P.info? E=some i/\P.cellsOf E=1/\jp_ P E false 1/\P.underlying E=some (.int .u8)/\P.eqGuardType P.depth F=false:=by
 unfold arrB at h
 split at h
 ·rename_i n E hu
  simp only [Bool.and_eq_true,beq_iff_eq,Bool.not_eq_true'] at h
  obtain ⟨⟨⟨⟨rfl,h2⟩,h5,h6⟩,h3⟩,h4⟩:=h
  obtain ⟨i,hi⟩:=Option.isSome_iff_exists.1 h6
  refine ⟨E,i,hu,hi,h5,varB_ok h2,?_,h4⟩
  split at h3
  ·assumption
  ·cases h3
 ·cases h
theorem zero16 {l:Bs} (h:l.length=16):((List.range 16).all fun j=>l[j]? == (List.replicate 16 (0:UInt8))[j]?)=l.all fun b=>b == 0:=by
 rw [Bool.eq_iff_iff]
 simp only [List.all_eq_true,List.mem_range,beq_iff_eq]
 constructor
 ·intro hh b hb
  obtain ⟨j,hj,rfl⟩:=List.getElem_of_mem hb
  have:=hh j (by omega)
  rw [List.getElem?_eq_getElem hj,List.getElem?_replicate,if_pos (by omega)] at this
  simpa using this
 ·intro hh j hj
  have hj':j < l.length:=by omega
  rw [List.getElem?_eq_getElem hj',List.getElem?_replicate,if_pos hj]
  simpa using hh _ (List.getElem_mem hj')
theorem run_neq16 {F:Nat} (h:arrB P F=true) {l:Bs} (hl:l.length=16) (x y:Operand) (w:World) :
  (eqGuard .neq F x y (.agg (l.map octv).toArray) (.agg (Array.replicate 16 (.int .u8 0)))).run P w=.ok () w/\(binOp .neq F (.agg (l.map octv).toArray) (.agg (Array.replicate 16 (.int .u8 0)))).run P w=.ok (.bool !(l.all fun b=>b == 0)) w:=by
 obtain ⟨E,i,hu,hi,hsz,hV,hk,hg⟩:=arrB_ok h
 refine ⟨run_eqGuard_agg w .neq F x y _ _ hg,?_⟩
 have er:(Array.replicate 16 (Value.int .u8 0))=((List.replicate 16 (0:UInt8)).map octv).toArray:=by simp only [List.map_replicate,octv];rfl
 rw [er,run_neq_struct,run_equalIn_array w 9999 _ _ hu hi,hsz,run_eqItems_oct (d:=9998) hV hk l _ w _ (fun j hj=>by simp at hj ⊢;omega),zero16 hl]
 rfl
end
section
variable {P:Program} {g:GW} {av:PF->Bool} {fl nl:Bool} {te:Nat} {L m k0 n B O:Nat} {d:Value} {bs:Bs} {K E:Act->World->Prop} {Q:Exit->Act->World->Prop} {a:Act} {w:World}
theorem wl_at {s T k F off:Nat} {y:Value} {ops:Array Oper} {QQ:Exit->Act->World->Prop} {r:List Oper} (hs:a.get s=pt B O) (hF:zj_ P T k F off false 1) (hy:w.cell? ⟨B,O + off,none⟩=some y) (hn:n + 4<=a.tmps.size)
  (h:∀ a',Pv n k0 k0 n a a'->(∀ i,i < n->a'.get i=a.get i)->a'.get (n + 3)=y->wpList P ops QQ r a' w) (hk:k0<=n):wpList P ops QQ (gwAt s T k F n++r) a w:=by
 show wpList P ops QQ (mk (some n) (.move (tm s)) :: mk (some (n + 1)) (.nilCheck (tm n)) :: mk (some (n + 2)) (.fieldAddr T (tm (n + 1)) k) :: mk (some (n + 3)) (.load F (tm (n + 2))) :: r) a w
 refine qd_ ?_
 rw [qb_,hs]
 refine qp_ (by rw [qb_,gpe (by omega)];rfl) ?_
 refine ju_ (by rw [qb_,gpe (by simp only [qa_];omega)]) hF ?_
 refine q5_ (p:=⟨B,O + off,none⟩) (v:=y) (by rw [qb_,gpe (by simp only [qa_];omega)]) (hF.var.agg w) hy (h _ ?_ (fun i hi=>?_) (gpe (by simp only [qa_];omega)))
 ·exact ((((Pv.refl _ _ _ _ _).put _ (by omega)).put _ (by omega)).put _ (by omega)).put _ (by omega)
 ·rw [gpo (by omega),gpo (by omega),gpo (by omega),gpo (by omega)]
theorem wl_atN {s T k F off:Nat} {cs:List Value} {ops:Array Oper} {QQ:Exit->Act->World->Prop} {r:List Oper} (hs:a.get s=pt B O) (hF:zj_ P T k F off true 16) (hl:cs.length=16) (hy:qy_ w B (O + off) cs) (hn:n + 4<=a.tmps.size)
  (h:∀ a',Pv n k0 k0 n a a'->(∀ i,i < n->a'.get i=a.get i)->a'.get (n + 3)=.agg cs.toArray->wpList P ops QQ r a' w) (hk:k0<=n):wpList P ops QQ (gwAt s T k F n++r) a w:=by
 show wpList P ops QQ (mk (some n) (.move (tm s)) :: mk (some (n + 1)) (.nilCheck (tm n)) :: mk (some (n + 2)) (.fieldAddr T (tm (n + 1)) k) :: mk (some (n + 3)) (.load F (tm (n + 2))) :: r) a w
 refine qd_ ?_
 rw [qb_,hs]
 refine qp_ (by rw [qb_,gpe (by omega)];rfl) ?_
 refine ju_ (by rw [qb_,gpe (by simp only [qa_];omega)]) hF ?_
 refine wl_loadN (b:=B) (o:=O + off) (cs:=cs) (by rw [qb_,gpe (by simp only [qa_];omega)]) (hF.var.agg w) (by rw [hl];exact hF.var.size w) hy (h _ ?_ (fun i hi=>?_) (gpe (by simp only [qa_];omega)))
 ·exact ((((Pv.refl _ _ _ _ _).put _ (by omega)).put _ (by omega)).put _ (by omega)).put _ (by omega)
 ·rw [gpo (by omega),gpo (by omega),gpo (by omega),gpo (by omega)]
theorem s_cond (K0:KW P g av fl nl te) {s T off:Nat} {ty:Ty} {df:Int} {nm:Nm} {vv:V} {A:GC} {X:Nat->Prop} (hok:okCondW P av g T off ty nm=true) (_hInt:P.underlying g.tInt=some (.int .i64)) (hs:a.get s=pt B O) (hr:Rp w X ty B (O + off) vv) (hA:Up A) (_hsn:s < n) (hk:k0<=n) (hn:(gwCond g s ty df nm A n).2<=a.tmps.size)
  (hyes:isDf ty df vv=false->∀ a' w' n',Pv n k0 k0 n a a'->(∀ i,i < n->a'.get i=a.get i)->Keeps (fun _=>False) w w'->n<=n'->(gwCond g s ty df nm A n).2=(A n').2->NWP P (A n').1 (Exit.then K Q) a' w')
  (hno:isDf ty df vv=true->∀ a' w',Pv n k0 k0 n a a'->(∀ i,i < n->a'.get i=a.get i)->Keeps (fun _=>False) w w'->K a' w'):NWP P (gwCond g s ty df nm A n).1 (Exit.then K Q) a w:=by
 simp only [okCondW,Bool.and_eq_true,beq_iff_eq] at hok
 obtain ⟨hT,hok⟩:=hok
 subst hT
 cases ty with
 | prim p=>
  by_cases hpu:p=.uuid
  ·subst hpu
   simp only [if_true,Bool.and_eq_true,beq_iff_eq] at hok
   obtain ⟨⟨⟨hav,hT3⟩,hF⟩,harr⟩:=hok
   have hF:=fldB_ok hF
   obtain ⟨hV,hz⟩:=K0.uuid hav
   have hA6:=hA (n + 6)
   have hn6:(A (n + 6)).2<=a.tmps.size:=hn
   obtain ⟨cs,hc,l,hl,rfl,rfl⟩:=hr
   have hdf:isDf (.prim .uuid) df (.s l)=l.all fun b=>b == 0:=rfl
   rw [hdf] at hyes hno
   obtain ⟨hq1,hq2⟩:=run_neq16 (P:=P) harr hl (tm (n + 3)) (tm (n + 4)) w
   have hbld:(Instr.build (nm.n 3) #[]).run P w=.ok (.agg (Array.replicate 16 (.int .u8 0))) w:=by
    have:=hz w
    rw [<- hT3] at this
    obtain ⟨E,i,hu,hi,hsz,hVE,_,_⟩:=arrB_ok harr
    simp [Instr.build,this,run_underlying hu,hVE.size w,Instr.fill,Value.cells]
   have step:∀ (R:Exit->Act->World->Prop),(∀ a',Pv n k0 k0 n a a'->(∀ i,i < n->a'.get i=a.get i)->a'.eval (tm (n + 5))=.bool (!(l.all fun b=>b == 0))->R .normal a' w) ->
     wpList P ((fun n=>gwAt s (nm.n 1) (nm.n 2) (nm.n 3) n++[mk (some (n + 4)) (.build (nm.n 3) #[]),mk (some (n + 5)) (.binOp .neq (nm.n 3) (tm (n + 3)) (tm (n + 4)) 0)]) n).toArray R ((fun n=>gwAt s (nm.n 1) (nm.n 2) (nm.n 3) n++[mk (some (n + 4)) (.build (nm.n 3) #[]),mk (some (n + 5)) (.binOp .neq (nm.n 3) (tm (n + 3)) (tm (n + 4)) 0)]) n) a w:=by
    intro R hR
    refine wl_atN (n:=n) (k0:=k0) (off:=off) (cs:=l.map octv) hs hF (by simpa using hl) hc (by omega) (fun a1 hp1 hlow h3=>?_) hk
    have hs1:=hp1.size
    refine qn_ (v:=.agg (Array.replicate 16 (.int .u8 0))) (w':=w) (by simp [execOp,mk,hbld]) ?_
    refine qn_ (v:=.bool (!(l.all fun b=>b == 0))) (w':=w) ?_ (wpList_nil (hR _ ((hp1.put _ (by omega)).put _ (by omega)) (fun i hi=>by rw [gpo (by omega),gpo (by omega)];exact hlow i hi) (by rw [qb_,gpe (by simp only [qa_];omega)])))
    have e3:(a1.put (some (n + 4)) (.agg (Array.replicate 16 (.int .u8 0)))).eval (tm (n + 3))=.agg (l.map octv).toArray:=by rw [qb_,gpo (by omega)];exact h3
    have e4:(a1.put (some (n + 4)) (.agg (Array.replicate 16 (.int .u8 0)))).eval (tm (n + 4))=.agg (Array.replicate 16 (.int .u8 0)):=by rw [qb_,gpe (by omega)]
    simp only [execOp,mk,e3,e4,Sem.run_bind,hq1,hq2,Result.andThen_ok,Sem.run_pure]
   cases hb:(l.all fun b=>b == 0) with
   | true=>
    rw [hb] at hno step
    exact z2_ (step _ fun a1 hp1 hlow he=>⟨he,.skip (hno rfl a1 w hp1 hlow (Keeps.refl _ _))⟩)
   | false=>
    rw [hb] at hyes step
    exact z3_ (step _ fun a1 hp1 hlow he=>⟨he,hyes rfl a1 w (n + 6) hp1 hlow (Keeps.refl _ _) (by omega) rfl⟩)
  simp only [if_neg hpu,Bool.and_eq_true] at hok
  obtain ⟨hp,hF⟩:=hok
  have hcode:gwCond g s (.prim p) df nm A=gIf 4 5 (fun n=>gwAt s (nm.n 1) (nm.n 2) (nm.n 3) n++[mk (some (n + 4)) (.binOp .neq (nm.n 3) (tm (n + 3)) (.const (pVal p df)) 0)]) A jk_:=by cases p <;> first | rfl | cases hp
  rw [hcode] at hn hyes ⊢
  have hA5:=hA (n + 5)
  have hn5:(A (n + 5)).2<=a.tmps.size:=hn
  obtain ⟨x,hcell,rfl⟩:∃ x,w.cell? ⟨B,O + off,none⟩=some (.int p.kind x)/\vv=.n x:=by
   obtain ⟨cs,hc,hl⟩:=hr
   cases p
   case bool=>cases hp
   case uuid=>cases hp
   all_goals
    obtain ⟨x,rfl,rfl,_⟩:=hl
    exact ⟨x,hc 0 _ rfl,rfl⟩
  have hpv:pVal p df=.int p.kind df:=by cases p <;> first | rfl | cases hp
  have hdf:isDf (.prim p) df (.n x)=(x == df):=by cases p <;> first | rfl | cases hp
  rw [hdf] at hyes hno
  by_cases hx:x=df
  ·refine z2_ (wl_at (n:=n) (k0:=k0) (off:=off) (y:=.int p.kind x) hs (fldB_ok hF) hcell (by omega) (fun a1 hp1 hlow h3=>?_) hk)
   have hs1:=hp1.size
   refine q9_ (b:=false) (p:=x) (q:=df) (k:=p.kind) (by rw [qb_];exact h3) (by rw [hpv];rfl) (.inr (.inr (.inr (.inr (.inr ⟨rfl,by simp [hx]⟩))))) (wpList_nil ⟨by rw [qb_,gpe (by omega)],.skip (hno (by simp [hx]) _ w (hp1.put _ (by omega)) (fun i hi=>by rw [gpo (by omega)];exact hlow i hi) (Keeps.refl _ _))⟩)
  ·refine z3_ (wl_at (n:=n) (k0:=k0) (off:=off) (y:=.int p.kind x) hs (fldB_ok hF) hcell (by omega) (fun a1 hp1 hlow h3=>?_) hk)
   have hs1:=hp1.size
   refine q9_ (b:=true) (p:=x) (q:=df) (k:=p.kind) (by rw [qb_];exact h3) (by rw [hpv];rfl) (.inr (.inr (.inr (.inr (.inr ⟨rfl,by simp [hx]⟩))))) (wpList_nil ⟨by rw [qb_,gpe (by omega)],hyes (by simp [hx]) _ w (n + 5) (hp1.put _ (by omega)) (fun i hi=>by rw [gpo (by omega)];exact hlow i hi) (Keeps.refl _ _) (by omega) rfl⟩)
 | str nul=>
  cases nul with
  | none=>cases hok
  | some q=>
   simp only [Bool.and_eq_true] at hok
   obtain ⟨hF,hptr⟩:=hok
   obtain ⟨el,hel⟩:∃ el,P.underlying (nm.n 3)=some (.pointer el):=by
    unfold ptrB at hptr
    split at hptr
    ·rename_i el h;exact ⟨el,h⟩
    ·cases hptr
   have hA5:=hA (n + 5)
   have hn5:(A (n + 5)).2<=a.tmps.size:=hn
   obtain ⟨mp,hcell,hnul⟩:∃ mp,w.cell? ⟨B,O + off,none⟩=some (.pointer mp)/\vv.isNul=mp.isNone:=by
    obtain ⟨cs,hc,hl⟩:=hr
    rcases hl with ⟨rfl,rfl⟩ | ⟨l,b,o,rfl,_,_,rfl,_⟩
    ·exact ⟨none,hc 0 _ rfl,rfl⟩
    ·exact ⟨_,hc 0 _ rfl,rfl⟩
   have hdf:isDf (.str (some q)) df vv=vv.isNul:=rfl
   rw [hdf,hnul] at hyes hno
   cases mp with
   | none=>
    refine z2_ (wl_at (n:=n) (k0:=k0) (off:=off) (y:=.pointer none) hs (fldB_ok hF) hcell (by omega) (fun a1 hp1 hlow h3=>?_) hk)
    have hs1:=hp1.size
    refine wl_ptrNe (m:=none) hel (by rw [qb_];exact h3) (wpList_nil ⟨by rw [qb_,gpe (by omega)];rfl,.skip (hno rfl _ w (hp1.put _ (by omega)) (fun i hi=>by rw [gpo (by omega)];exact hlow i hi) (Keeps.refl _ _))⟩)
   | some p=>
    refine z3_ (wl_at (n:=n) (k0:=k0) (off:=off) (y:=.pointer (some p)) hs (fldB_ok hF) hcell (by omega) (fun a1 hp1 hlow h3=>?_) hk)
    have hs1:=hp1.size
    refine wl_ptrNe (m:=some p) hel (by rw [qb_];exact h3) (wpList_nil ⟨by rw [qb_,gpe (by omega)];rfl,hyes rfl _ w (n + 5) (hp1.put _ (by omega)) (fun i hi=>by rw [gpo (by omega)];exact hlow i hi) (Keeps.refl _ _) (by omega) rfl⟩)
 | list nul esz e=>
  simp only [Bool.and_eq_true] at hok
  obtain ⟨hF,hsl⟩:=hok
  obtain ⟨el,hel⟩:∃ el,P.underlying (nm.n 3)=some (.slice el):=by
   unfold sliceB at hsl
   split at hsl
   ·rename_i el h;exact ⟨el,h⟩
   ·cases hsl
  have hA6:=hA (n + 6)
  have hn6:(A (n + 6)).2<=a.tmps.size:=hn
  obtain ⟨base,c,hcell⟩:∃ base c,w.cell? ⟨B,O + off,none⟩=some (.slice base vv.list.length c):=by
   rcases hr with ⟨h1,rfl⟩ | ⟨xs,p,q,c,h1,_,_,_,_,rfl,_⟩
   ·exact ⟨none,0,h1⟩
   ·exact ⟨_,c,h1⟩
  have hdf:isDf (.list nul esz e) df vv=vv.list.isEmpty:=rfl
  rw [hdf] at hyes hno
  have step:∀ (b:Bool) (R:Exit->Act->World->Prop),b=decide ((0:Int) < (vv.list.length:Int))->(∀ a',Pv n k0 k0 n a a'->(∀ i,i < n->a'.get i=a.get i)->a'.eval (tm (n + 5))=.bool b->R .normal a' w) ->
    wpList P ((fun n=>gwAt s (nm.n 1) (nm.n 2) (nm.n 3) n++[bi (some (n + 4)) .len [tm (n + 3)] [nm.n 3] g.tInt,mk (some (n + 5)) (.binOp .gtr g.tInt (tm (n + 4)) (ki .i64 0) 0)]) n).toArray R ((fun n=>gwAt s (nm.n 1) (nm.n 2) (nm.n 3) n++[bi (some (n + 4)) .len [tm (n + 3)] [nm.n 3] g.tInt,mk (some (n + 5)) (.binOp .gtr g.tInt (tm (n + 4)) (ki .i64 0) 0)]) n) a w:=by
   intro b R hb hR
   refine wl_at (n:=n) (k0:=k0) (off:=off) (y:=.slice base vv.list.length c) hs (fldB_ok hF) hcell (by omega) (fun a1 hp1 hlow h3=>?_) hk
   have hs1:=hp1.size
   refine wl_len (base:=base) (n:=vv.list.length) (c:=c) (by rw [qb_];exact h3) hel ?_
   refine q9_ (b:=b) (p:=(vv.list.length:Int)) (q:=0) (k:=.i64) (by rw [qb_,gpe (by omega)]) rfl (.inr (.inr (.inr (.inl ⟨rfl,hb⟩)))) (wpList_nil (hR _ ((hp1.put _ (by omega)).put _ (by omega)) (fun i hi=>by rw [gpo (by omega),gpo (by omega)];exact hlow i hi) (by rw [qb_,gpe (by simp only [qa_];omega)])))
  cases hl:vv.list with
  | nil=>
   rw [hl] at hno
   exact z2_ (step false _ (by rw [hl];rfl) fun a1 hp1 hlow hb=>⟨hb,.skip (hno rfl a1 w hp1 hlow (Keeps.refl _ _))⟩)
  | cons x xs=>
   rw [hl] at hyes
   exact z3_ (step true _ (by rw [hl];simp) fun a1 hp1 hlow hb=>⟨hb,hyes rfl a1 w (n + 6) hp1 hlow (Keeps.refl _ _) (by omega) rfl⟩)
 | bytes _=>cases hok
 | struct nul toff fs=>
  cases nul with
  | some _=>cases hok
  | none=>
  cases toff with
  | none=>cases hok
  | some o=>
  simp only [Bool.and_eq_true] at hok
  obtain ⟨hF,hsm⟩:=hok
  have hF:=fldB_ok hF
  obtain ⟨s0,hs0,e1,e2,e3,e4,hds,hcov⟩:=smB_ok hsm
  have C:=K0.smC s0 hs0
  obtain ⟨cs,mm,vs,t,rfl,hlen,hcells,_,hto,hmt,_,hbox⟩:=bx_cells hds hcov hr
  obtain ⟨hsh,hfd⟩:=boxF_ds w fs vs s0.ds hds hbox
  have hszT:sizeT P (nm.n 3)=s0.sz:=by
   have h1:=hF.var.size w
   have h2:=C.var.size w
   rw [e3] at h2
   rw [h1] at h2
   simpa using h2
  have hA7:=hA (n + 7)
  have hn7:(A (n + 7)).2<=a.tmps.size:=hn
  have hdf:isDf (.struct none (some o) fs) df (.st vs t)=((s0.ds.all fun q=>pvEq q.2.1 q.2.2 ((cs[q.1]?).getD undef)) && mm.isNone):=by simp only [isDf,V.fields,V.tags,hfd,hmt]
  rw [hdf] at hyes hno
  have hLo:xd_ [mk (some n) (.move (tm s)),mk (some (n + 1)) (.nilCheck (tm n)),mk (some (n + 2)) (.fieldAddr (nm.n 1) (tm (n + 1)) (nm.n 2)),mk (some (n + 3)) (.load (nm.n 3) (tm (n + 2))),cl (some (n + 4)) (nm.n 7) [],cl (some (n + 5)) (nm.n 8) [tm (n + 3),tm (n + 4)],mk (some (n + 6)) (.unOp .not (nm.n 9) (tm (n + 5)))]=[false,false,false,false,true,true,true]:=by
   simp [xd_,acts,mk,cl,rdsOf,Op.operands,tm]
  have step:∀ (Q':Exit->Act->World->Prop),(∀ a' w',Pv n k0 k0 n a a'->(∀ i,i < n->a'.get i=a.get i)->Keeps (fun _=>False) w w'->a'.eval (tm (n + 6))=.bool (!((s0.ds.all fun q=>pvEq q.2.1 q.2.2 ((cs[q.1]?).getD undef)) && mm.isNone))->Q' .normal a' w') ->
    NWP P (gDraw 7 (fun n=>gwAt s (nm.n 1) (nm.n 2) (nm.n 3) n++[cl (some (n + 4)) (nm.n 7) [],cl (some (n + 5)) (nm.n 8) [tm (n + 3),tm (n + 4)],mk (some (n + 6)) (.unOp .not (nm.n 9) (tm (n + 5)))]) n).1 Q' a w:=by
   intro Q' hQ
   show NWP P (.region 1 [mk (some n) (.move (tm s)),mk (some (n + 1)) (.nilCheck (tm n)),mk (some (n + 2)) (.fieldAddr (nm.n 1) (tm (n + 1)) (nm.n 2)),mk (some (n + 3)) (.load (nm.n 3) (tm (n + 2))),cl (some (n + 4)) (nm.n 7) [],cl (some (n + 5)) (nm.n 8) [tm (n + 3),tm (n + 4)],mk (some (n + 6)) (.unOp .not (nm.n 9) (tm (n + 5)))].toArray true) Q' a w
   refine .drw (fun w'=>Keeps (fun _=>False) w w') ?_
   rw [hLo]
   simp only [xc_,j9_]
   refine ev_move ?_
   rw [qb_,hs]
   refine ev_nilCheck (p:=⟨B,O,none⟩) (by rw [qb_,gpe (by omega)];rfl) (ev_fld (B:=B) (O:=O) (by rw [qb_,gpe (by simp only [qa_];omega)]) hF ?_)
   refine ⟨.agg cs.toArray,fun w' hI=>?_,?_⟩
   ·have hl:=run_loadCells_list (P:=P) w' ⟨B,O + off,none⟩ cs (fun j v hj=>by rw [Addr.add_lit];exact hI.cell id (hcells j v hj))
    have key:∀ A:Act,A.eval (tm (n + 2))=pt B (O + off)->(execOp A.eval (mk (some (n + 3)) (.load (nm.n 3) (tm (n + 2))))).run P w'=.ok (.value (.agg cs.toArray)) w':=fun A e=>by
     simp only [pt] at e
     have hsz:(sizeOf (nm.n 3)).run P w'=.ok cs.length w':=by rw [hF.var.size w',hszT,hlen]
     simp [execOp,mk,e,Instr.loadAt,Instr.sureAddr,loadVar,hF.var.agg w',hsz,hl]
    exact key _ (by rw [qb_,gpe (by simp only [qa_];omega)];rfl)
   have hp4:Pv n k0 k0 n a ((((a.put (some n) (pt B O)).put (some (n + 1)) (.pointer (some ⟨B,O,none⟩))).put (some (n + 2)) (.pointer (some ⟨B,O + off,none⟩))).put (some (n + 3)) (.agg cs.toArray)):=((((Pv.refl _ _ _ _ _).put _ (by omega)).put _ (by omega)).put _ (by omega)).put _ (by omega)
   have hl4:∀ i,i < n->((((a.put (some n) (pt B O)).put (some (n + 1)) (.pointer (some ⟨B,O,none⟩))).put (some (n + 2)) (.pointer (some ⟨B,O + off,none⟩))).put (some (n + 3)) (.agg cs.toArray)).get i=a.get i:=fun i hi=>by rw [gpo (by omega),gpo (by omega),gpo (by omega),gpo (by omega)]
   have h34:((((a.put (some n) (pt B O)).put (some (n + 1)) (.pointer (some ⟨B,O,none⟩))).put (some (n + 2)) (.pointer (some ⟨B,O + off,none⟩))).put (some (n + 3)) (.agg cs.toArray)).get (n + 3)=.agg cs.toArray:=gpe (by simp only [qa_];omega)
   show wpLd P _ Q' _ ((((a.put (some n) (pt B O)).put (some (n + 1)) (.pointer (some ⟨B,O,none⟩))).put (some (n + 2)) (.pointer (some ⟨B,O + off,none⟩))).put (some (n + 3)) (.agg cs.toArray)) w.drew
   generalize (((a.put (some n) (pt B O)).put (some (n + 1)) (.pointer (some ⟨B,O,none⟩))).put (some (n + 2)) (.pointer (some ⟨B,O + off,none⟩))).put (some (n + 3)) (.agg cs.toArray)=a4 at hp4 hl4 h34 ⊢
   have hs4:=hp4.size
   have hkd:Keeps (fun _=>False) w w.drew:=Keeps.drew _ _
   refine ⟨hkd,wp_callK (vs:=([]:List Value).toArray) rfl (e1 ▸ C.dE) rfl (e1 ▸ C.dC w.drew) fun e w1 hR=>?_⟩
   obtain ⟨hk1,z,rfl,hz1,hz2,hz3⟩:=hR
   refine ⟨_,rfl,hkd.trans hk1,wp_callK (vs:=([.agg cs.toArray,.agg z.toArray]:List Value).toArray) rfl (e2 ▸ C.sE) ?_ (e2 ▸ C.sC w1 cs z mm hlen hz1 (e4 ▸ hto) hz2 hz3 hsh) fun e w2 hR=>?_⟩
   ·simp only [List.map_cons,List.map_nil,qb_]
    rw [gpo (by omega),gpe (by omega),h34]
   obtain ⟨hk2,rfl⟩:=hR
   have hk02:Keeps (fun _=>False) w w2:=(hkd.trans hk1).trans hk2
   refine ⟨_,rfl,hk02,?_⟩
   refine ld_not (b:=(s0.ds.all fun q=>pvEq q.2.1 q.2.2 ((cs[q.1]?).getD undef)) && mm.isNone) (by rw [qb_,gpe (by simp only [qa_];omega)]) ⟨hk02,hQ _ w2 (((hp4.put _ (by omega)).put _ (by omega)).put _ (by omega)) (fun i hi=>by rw [gpo (by omega),gpo (by omega),gpo (by omega)];exact hl4 i hi) hk02 (by rw [qb_,gpe (by simp only [qa_];omega)])⟩
  cases hb:((s0.ds.all fun q=>pvEq q.2.1 q.2.2 ((cs[q.1]?).getD undef)) && mm.isNone) with
  | true=>
   rw [hb] at hno step
   exact .seq (R:=Exit.then (fun a' w'=>NWP P (.cond (tm (n + 6)) (A (n + 7)).1 .skip) (Exit.then K Q) a' w') (Exit.then K Q)) (step _ fun a1 w1 hp1 hlow hk1 he=>.condF he (.skip (hno rfl a1 w1 hp1 hlow hk1))) (fun a' w' h=>h) (fun e a w he hq=>by rw [zc_ he] at hq;exact hq)
  | false=>
   rw [hb] at hyes step
   exact .seq (R:=Exit.then (fun a' w'=>NWP P (.cond (tm (n + 6)) (A (n + 7)).1 .skip) (Exit.then K Q) a' w') (Exit.then K Q)) (step _ fun a1 w1 hp1 hlow hk1 he=>.condT he (hyes rfl a1 w1 (n + 7) hp1 hlow hk1 (by omega) rfl)) (fun a' w' h=>h) (fun e a w he hq=>by rw [zc_ he] at hq;exact hq)
end
end Go.Proofs.YtlmanancakaapaaGreatDoor.Kx
