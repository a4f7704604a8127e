/-
  PLAIN LAWS AND CONTRACTS of messages, part 5 of 8: how readers and writers are printed, what they do, what the reference writes, and that what is written is read as the same. Nothing of a statement stands here.
-/
import Derived.Test.YtbacpeilgfmblaaDoorK1
import Derived.Test.YtbacpeilgfmblaaDoorK4
import Derived.KernelRfl
import Derived.Laws.IdiomStrings
import Derived.MapFrom
import Derived.ChangeKeysEq

namespace Go.Proofs.YtbacpeilgfmblaaDoor.Kx
open Go
structure CxW (cx:Cx) (m k0:Nat):Prop where
 s:cx.s < m/\cx.s ≠ 1
 ver:cx.ver < m/\cx.ver ≠ 1
 fx:cx.fx < m/\cx.fx ≠ 1
 one:1 < m
 le:m<=k0
structure WC (cx:Cx) (fx:Bool) (ver:Int) (te L B O:Nat) (d:Value) (bs:Bs) (a:Act) (w:World):Prop where
 dst:DstAt w L te d bs
 s1:a.get 1=d
 ss:a.get cx.s=pt B O
 sv:a.get cx.ver=.int .i16 ver
 sf:cx.hf=true->a.get cx.fx=.bool fx
 nf:cx.hf=false->fx=false
 BL:B < L
 Lw:L<=w.heap.size
section
variable {P:Program} {g:GW} {av:PF->Bool} {fl nl:Bool} {te:Nat} {cx:Cx} {fx:Bool} {ver:Int} {L B O m k0 n:Nat} {d:Value} {bs:Bs} {K N E:Act->World->Prop} {Q:Exit->Act->World->Prop} {a:Act} {w:World}
theorem WC.at {s B' O':Nat} {a':Act} (h:WC cx fx ver te L B O d bs a w) (hc:CxW cx m k0) (hp:Pv 1 m k0 n a a') (h1:a'.get 1=d) (hs:a'.get s=pt B' O') (hB:B' < L):WC { cx with s:=s } fx ver te L B' O' d bs a' w:=
 ⟨h.dst,h1,hs,by rw [hp.get _ hc.ver.2 (.inl hc.ver.1)];exact h.sv,fun hf=>by rw [hp.get _ hc.fx.2 (.inl hc.fx.1)];exact h.sf hf,h.nf,hB,h.Lw⟩
theorem CxW.at {s m':Nat} (h:CxW cx m k0) (hs:m<=s/\s < m') (hm:m<=m') (hk:m'<=k0):CxW { cx with s:=s } m' k0:=
 ⟨⟨hs.2,by have:=h.one;show s ≠ 1;omega⟩,⟨Nat.lt_of_lt_of_le h.ver.1 hm,h.ver.2⟩,⟨Nat.lt_of_lt_of_le h.fx.1 hm,h.fx.2⟩,Nat.lt_of_lt_of_le h.one hm,hk⟩
theorem CxW.mono {m':Nat} (h:CxW cx m k0) (hm:m<=m') (hk:m'<=k0):CxW cx m' k0:=
 ⟨⟨by have:=h.s;omega,h.s.2⟩,⟨by have:=h.ver;omega,h.ver.2⟩,⟨by have:=h.fx;omega,h.fx.2⟩,by have:=h.one;omega,hk⟩
end
def k32 (k:Nat):Value:=.int .u32 (k:Int)
def TeAt (w:World) (L tU:Nat) (v:Value) (ks:List Nat):Prop:=
 (v=.slice none 0 0/\ks=[]) \/ ∃ (g c:Nat) (cur:Array Value),v=.slice (some ⟨g,0,none⟩) ks.length c/\L<=g/\w.heap[g]?=some (.cells cur tU (0,0))/\ks.length<=c/\c<=maxLen/\c<=cur.size/\∀ (j k:Nat),ks[j]?=some k->cur[j]?=some (k32 k)
section
variable {P:Program} {tKs tU L:Nat} {v:Value} {ks:List Nat} {w w':World}
theorem TeAt.own (h:TeAt w L tU v ks) {j:Nat} (hj:v.ownBlock=some j):L<=j/\j < w.heap.size:=by
 rcases h with ⟨rfl,_⟩ | ⟨g,c,cur,rfl,h1,h2,_⟩
 ·simp [Value.ownBlock] at hj
 ·simp only [Value.ownBlock,Option.some.injEq] at hj
  subst hj
  exact ⟨h1,(Array.getElem?_eq_some_iff.1 h2).1⟩
variable {m k0 n:Nat} {K E:Act->World->Prop} {Q:Exit->Act->World->Prop} {a:Act}
end
section
variable {P:Program} {g:GW} {av:PF->Bool} {fl nl:Bool} {te:Nat} {L m k0 n:Nat} {d:Value} {bs:Bs} {K E:Act->World->Prop} {Q:Exit->Act->World->Prop} {a:Act} {w:World}
structure Sx (x y mB k0 n:Nat) (a a':Act):Prop where
 size:a'.tmps.size=a.tmps.size
 defers:a'.defers=a.defers
 get:∀ i,i ≠ x->i ≠ y->(i < mB \/ (k0<=i/\i < n))->a'.get i=a.get i
theorem Sx.trans {x y mB k0 n:Nat} {a b c:Act} (h:Sx x y mB k0 n a b) (k:Sx x y mB k0 n b c):Sx x y mB k0 n a c:=
 ⟨k.size.trans h.size,k.defers.trans h.defers,fun i hx hy hi=>(k.get i hx hy hi).trans (h.get i hx hy hi)⟩
theorem Sx.put {x y mB k0 n d:Nat} {a b:Act} (h:Sx x y mB k0 n a b) (v:Value) (hd:d=x \/ d=y \/ (mB<=d/\d < k0) \/ (mB<=d/\n<=d)):Sx x y mB k0 n a (b.put (some d) v):=
 ⟨by rw [put_size];exact h.size,by rw [put_defers];exact h.defers,fun i hx hy hi=>by rw [gpo (by omega)];exact h.get i hx hy hi⟩
theorem Sx.mono {x y mB k0 n mB' n':Nat} {a b:Act} (h:Sx x y mB k0 n a b) (hm:mB'<=mB) (hn:n'<=n):Sx x y mB' k0 n' a b:=⟨h.size,h.defers,fun i hx hy hi=>h.get i hx hy (by omega)⟩
end
structure TG (L tU:Nat) (v:Value) (w:World) (v':Value) (ks':List Nat) (w':World):Prop where
 at_:TeAt w' L tU v' ks'
 keeps:Keeps (fun j=>v.ownBlock=some j) w w'
 own:∀ j,v'.ownBlock=some j->v.ownBlock=some j \/ w.heap.size<=j
section
variable {P:Program} {tKs tU L:Nat} {v v1 v':Value} {ks ks1 ks':List Nat} {w w1 w':World}
theorem TG.trans (h:TG L tU v w v1 ks1 w1) (k:TG L tU v1 w1 v' ks' w'):TG L tU v w v' ks' w':=
 ⟨k.at_,⟨k.keeps.os.trans h.keeps.os,k.keeps.tape.trans h.keeps.tape,k.keeps.output.trans h.keeps.output,Nat.le_trans h.keeps.size k.keeps.size,fun i hi hx=>by
   have hs:=h.keeps.size
   rw [k.keeps.block i (by omega) (fun hh=>by rcases h.own i hh with h1 | h1;exact hx h1;omega),h.keeps.block i hi hx]⟩,
  fun i hi=>by
   have hs:=h.keeps.size
   rcases k.own i hi with h1 | h1
   ·exact h.own i h1
   ·exact .inr (by omega)⟩
variable {g:GW} {m k0 n B O s te:Nat} {Q:Exit->Act->World->Prop} {a:Act}
end
section
variable {P:Program} {g:GW} {av:PF->Bool} {fl nl:Bool} {te:Nat} {L m k0 n B O:Nat} {d:Value} {bs:Bs} {K E:Act->World->Prop} {Q:Exit->Act->World->Prop} {a:Act} {w:World}
end
theorem Keeps.none {X:Nat->Prop} {w w':World} (h:Keeps (fun _=>False) w w'):Keeps X w w':=h.mono fun _ _ h=>h.elim
section
variable (P:Program) (g:GW) (av:PF->Bool) (fl nl:Bool) (te:Nat)
end
section
variable {P:Program} {g:GW} {av:PF->Bool} {fl nl:Bool} {te:Nat}
end
end Go.Proofs.YtbacpeilgfmblaaDoor.Kx
