/-
  PLAIN LAWS AND CONTRACTS of messages, part 6 of 12: how readers and writers are printed, what they do, what the reference writes, and that what is written is read as the same. Nothing of a statement stands here.
-/
import Derived.Test.YtlnmiphokmhajaaK1
import Derived.Test.YtlnmiphokmhajaaK2
import Derived.Test.YtlnmiphokmhajaaK5
import Derived.KernelRfl
import Derived.MapFrom
import Derived.ChangeKeysEq

namespace Go.Proofs.Ytlnmiphokmhajaa.Kx
open Go
structure CxW (cx:Cx) (m k0:Nat):Prop where
 s:cx.s < m/\cx.s ≠ 1
 ver:cx.ver < m/\cx.ver ≠ 1
 fx:cx.fx < m/\cx.fx ≠ 1
 one:1 < m
 le:m<=k0
structure WC (cx:Cx) (fx:Bool) (ver:Int) (te L B O:Nat) (d:Value) (bs:Bs) (a:Act) (w:World):Prop where
 dst:qu_ w L te d bs
 s1:a.get 1=d
 ss:a.get cx.s=pt B O
 sv:a.get cx.ver=.int .i16 ver
 sf:cx.hf=true->a.get cx.fx=.bool fx
 nf:cx.hf=false->fx=false
 BL:B < L
 Lw:L<=w.heap.size
section
variable {P:Program} {g:GW} {av:PF->Bool} {fl nl:Bool} {te:Nat} {cx:Cx} {fx:Bool} {ver:Int} {L B O m k0 n:Nat} {d:Value} {bs:Bs} {K N E:Act->World->Prop} {Q:Exit->Act->World->Prop} {a:Act} {w:World}
theorem WC.at {s B' O':Nat} {a':Act} (h:WC cx fx ver te L B O d bs a w) (hc:CxW cx m k0) (hp:Pv 1 m k0 n a a') (h1:a'.get 1=d) (hs:a'.get s=pt B' O') (hB:B' < L):WC { cx with s:=s } fx ver te L B' O' d bs a' w:=
 ⟨h.dst,h1,hs,by rw [hp.get _ hc.ver.2 (.inl hc.ver.1)];exact h.sv,fun hf=>by rw [hp.get _ hc.fx.2 (.inl hc.fx.1)];exact h.sf hf,h.nf,hB,h.Lw⟩
theorem CxW.at {s m':Nat} (h:CxW cx m k0) (hs:m<=s/\s < m') (hm:m<=m') (hk:m'<=k0):CxW { cx with s:=s } m' k0:=
 ⟨⟨hs.2,by have:=h.one;show s ≠ 1;omega⟩,⟨Nat.lt_of_lt_of_le h.ver.1 hm,h.ver.2⟩,⟨Nat.lt_of_lt_of_le h.fx.1 hm,h.fx.2⟩,Nat.lt_of_lt_of_le h.one hm,hk⟩
end
theorem Pv.g1 {v m k0 n:Nat} {a a':Act} (h:Pv v m k0 n a a') (hv:m<=v/\v < k0) (h1:1 < m):a'.get 1=a.get 1:=h.get 1 (by omega) (.inl h1)
section
variable {P:Program} {g:GW} {av:PF->Bool} {fl nl:Bool} {te:Nat} {cx:Cx} {fx:Bool} {ver:Int} {L B O m k0 n:Nat} {d:Value} {bs:Bs} {K N E:Act->World->Prop} {Q:Exit->Act->World->Prop} {a:Act} {w:World}
end
def k32 (k:Nat):Value:=.int .u32 (k:Int)
def TeAt (w:World) (L tU:Nat) (v:Value) (ks:List Nat):Prop:=
 (v=.slice none 0 0/\ks=[]) \/ ∃ (g c:Nat) (cur:Array Value),v=.slice (some ⟨g,0,none⟩) ks.length c/\L<=g/\w.heap[g]?=some (.cells cur tU (0,0))/\ks.length<=c/\c<=maxLen/\c<=cur.size/\∀ (j k:Nat),ks[j]?=some k->cur[j]?=some (k32 k)
section
variable {P:Program} {tKs tU L:Nat} {v:Value} {ks:List Nat} {w w':World}
theorem TeAt.own (h:TeAt w L tU v ks) {j:Nat} (hj:v.ownBlock=some j):L<=j/\j < w.heap.size:=by
 rcases h with ⟨rfl,_⟩ | ⟨g,c,cur,rfl,h1,h2,_⟩
 ·simp [Value.ownBlock] at hj
 ·simp only [Value.ownBlock,Option.some.injEq] at hj
  subst hj
  exact ⟨h1,(Array.getElem?_eq_some_iff.1 h2).1⟩
variable {m k0 n:Nat} {K E:Act->World->Prop} {Q:Exit->Act->World->Prop} {a:Act}
end
theorem qd_.none {X:Nat->Prop} {w w':World} (h:qd_ (fun _=>False) w w'):qd_ X w w':=h.mono fun _ _ h=>h.elim
section
variable (P:Program) (g:GW) (av:PF->Bool) (fl nl:Bool) (te:Nat)
end
section
variable {P:Program} {g:GW} {av:PF->Bool} {fl nl:Bool} {te:Nat}
end
end Go.Proofs.Ytlnmiphokmhajaa.Kx
